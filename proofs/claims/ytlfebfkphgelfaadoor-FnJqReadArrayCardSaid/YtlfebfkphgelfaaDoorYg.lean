/- jsonparser's ReaderParser over pieces: scanString, scanScalar, scanComposite. No statement of the set is proved here. -/
import Derived.Test.YtlfebfkphgelfaaDoorYf
namespace Go.Proofs.YtlfebfkphgelfaaDoor.Yr
open Go Go.Proofs Go.RowKit Go.Proofs.YtlfebfkphgelfaaDoor.Rx Go.Proofs.YtlfebfkphgelfaaDoor.Tr Go.Proofs.YtlfebfkphgelfaaDoor.Pl Go.Proofs.YtlfebfkphgelfaaDoor.Pw
open Go.Proofs.YtlfebfkphgelfaaDoor.Sr (Sl slV tBs tB)
open Go.Proofs.YtlfebfkphgelfaaDoor.Yp (Se Sc)

variable {w w' w'' : World} {s : ByteArray} {win : Int} {g h hp gB o i j e : Nat} {ps : List ByteArray} {r : Bool}
/-- What a scan to a place gives. -/
def Sn (s : ByteArray) (win : Int) (g h hp : Nat) (w : World) (gB o j : Nat) (r : Bool) (w' : World) : Prop := ∃ gB' o', RI s win g h hp w' gB' o' j ∧ (r = true → o' = o) ∧ Mv g h hp w gB w' gB'
theorem string_any (H : RI s win g h hp w gB o i) (h34 : bt s (i : Int) = 34) (hse : Se s (i + 1) false j) : Calls Tryd.prog 69 #[.pointer (some ⟨g, 0, none⟩), .bool r] w fun en w' => en = .returned .nilIface ∧ Sn s win g h hp w gB o j r w' := by
  have hl := hse.le
  refine jsonparser_ReaderParser_scanString.calls _ _ ?_
  unfold jsonparser_ReaderParser_scanString.t
  refine s_call (peek_any (r := r) H (by omega)) ?_
  rintro en w1 ⟨rfl, gB1, o1, e1, ps1, H1, hie, hr1, mv1⟩
  refine ⟨(bt s (i : Int), Value.nilIface, ()), rfl, s_chk rfl (sat_iteF.2 ?_)⟩
  obtain ⟨op, pc, ob, k, buf, Hb⟩ := id H1
  refine s_ptr (s_load ((i - o1 : Nat) : Int) (by rw [addr_add, Nat.zero_add, Hb.rp.cell]; rfl) (s_ptr (s_next H1 hie rfl fun w2 H2 k2 => ?_)))
  have mv2 := mv1.trans (Mv.on (h := h) (hp := hp) (gB := gB1) k2)
  refine s_loop (fun n z w' => ∃ (gB' o' q : Nat) (b : Bool), n = j - q ∧ z = (b, ()) ∧ Se s q b j ∧ RI s win g h hp w' gB' o' q ∧ (r = true → o' = o) ∧ Mv g h hp w gB w' gB') (j - (i + 1)) (false, ()) rfl ⟨gB1, o1, i + 1, false, rfl, rfl, hse, ⟨e1, ps1, H2⟩, hr1, mv2⟩ ?_
  clear H1 H2 mv1 mv2 hie hr1 Hb
  rintro n z w3 ⟨gB3, o3, q, b, rfl, rfl, hq, H3, hr3, mv3⟩
  show sat _ (jsonparser_ReaderParser_scanString.t1 (some ⟨g, 0, none⟩) r (bt s (i : Int), Value.nilIface, ()) b) _ _
  unfold jsonparser_ReaderParser_scanString.t1
  have hql := hq.le
  refine s_call (peek_any (r := r) H3 (by omega)) ?_
  rintro en w4 ⟨rfl, gB4, o4, e4, ps4, H4, hie4, hr4, mv4⟩
  refine ⟨(bt s (q : Int), Value.nilIface, ()), rfl, s_chk rfl (sat_iteF.2 ?_)⟩
  obtain ⟨op, pc, ob, k, buf, Hb⟩ := id H4
  refine s_ptr (s_load ((q - o4 : Nat) : Int) (by rw [addr_add, Nat.zero_add, Hb.rp.cell]; rfl) (s_ptr (s_next H4 hie4 rfl fun w5 H5 k5 => ?_)))
  have mv5 := (mv3.trans mv4).trans (Mv.on (h := h) (hp := hp) (gB := gB4) k5)
  have hr5 : r = true → o4 = o := fun e => (hr4 e).trans (hr3 e)
  have next : ∀ b', Se s (q + 1) b' j → ∃ n' x', [Value.bool b'] = (Sh.cons .bool .nil).vals x' ∧ n' < j - q ∧ ∃ (gB' o' q : Nat) (b : Bool), n' = j - q ∧ x' = (b, ()) ∧ Se s q b j ∧ RI s win g h hp w5 gB' o' q ∧ (r = true → o' = o) ∧ Mv g h hp w gB w5 gB' := fun b' hb' =>
    ⟨j - (q + 1), (b', ()), rfl, by omega, gB4, o4, q + 1, b', rfl, rfl, hb', ⟨e4, ps4, H5⟩, hr5, mv5⟩
  cases b with
  | true =>
    refine sat_iteT.2 (s_leaf ?_)
    rw [if_pos rfl]
    cases hq with
    | es _ h1 => exact next false h1
  | false =>
    refine sat_iteF.2 (s_iteE (fun h92 => s_leaf ?_) (fun n92 => s_iteE (fun hqq => s_leaf ?_) (fun nqq => s_leaf ?_)))
    · have h92 : bt s (q : Int) = 92 := h92
      rw [if_pos rfl]
      cases hq with
      | fin h1 => omega
      | pl _ _ h1 _ => exact absurd h92 h1
      | bs _ h1 => exact next true h1
    · have hqq : bt s (q : Int) = bt s (i : Int) := hqq
      rw [if_neg (by decide)]
      cases hq with
      | fin h1 => exact ⟨rfl, rfl, gB4, o4, ⟨e4, ps4, H5⟩, hr5, mv5⟩
      | pl _ h1 _ _ => exact absurd (hqq.trans h34) h1
      | bs h1 _ => omega
    · have n92 : bt s (q : Int) ≠ 92 := n92
      have nqq : bt s (q : Int) ≠ bt s (i : Int) := nqq
      rw [if_pos rfl]
      cases hq with
      | fin h1 => exact absurd (h1.trans h34.symm) nqq
      | pl _ _ _ h1 => exact next false h1
      | bs h1 _ => exact absurd h1 n92
theorem delim_any {c : Nat} : Calls Tryd.prog 80 #[.int .u8 (c : Int)] w fun en w' => (∃ d : Bool, en = .returned (.bool d) ∧ (d = true ↔ Ka.isE (c : Int))) ∧ w' = w := by
  refine jsonparser_isReaderValueDelimiter.calls _ ?_
  unfold jsonparser_isReaderValueDelimiter.t
  refine s_call ws_any ?_
  rintro en w1 ⟨rfl, rfl⟩
  refine ⟨isB (c : Int), rfl, s_ite (fun hb => s_leaf ⟨rfl, ⟨true, rfl, ⟨fun _ => ?_, fun _ => rfl⟩⟩, rfl⟩) (fun hb => s_iteE (fun e => s_leaf ⟨rfl, ⟨true, rfl, ⟨fun _ => ?_, fun _ => rfl⟩⟩, rfl⟩) (fun n1 => s_iteE (fun e => s_leaf ⟨rfl, ⟨true, rfl, ⟨fun _ => ?_, fun _ => rfl⟩⟩, rfl⟩) (fun n2 => s_leaf ⟨rfl, ⟨_, rfl, ⟨fun hh => ?_, fun hh => ?_⟩⟩, rfl⟩)))⟩
  · have := isB_iff.1 hb
    unfold Ka.isE; omega
  · unfold Ka.isE; omega
  · unfold Ka.isE; omega
  · have := beq_iff_eq.1 hh
    unfold Ka.isE; omega
  · unfold Ka.isE at hh
    have hnb : ¬ ((c : Int) = 32 ∨ (c : Int) = 9 ∨ (c : Int) = 10 ∨ (c : Int) = 13) := fun hh => by rw [isB_iff.2 hh] at hb; cases hb
    exact beq_iff_eq.2 (by omega)
theorem scalar_any (H : RI s win g h hp w gB o i) (hij : i < j) (hjs : j < s.size) (hn : ∀ q, i ≤ q → q < j → ¬ Ka.isE (bt s (q : Int))) (hj : Ka.isE (bt s (j : Int))) : Calls Tryd.prog 71 #[.pointer (some ⟨g, 0, none⟩), .bool r] w fun en w' => en = .returned .nilIface ∧ Sn s win g h hp w gB o j r w' := by
  refine jsonparser_ReaderParser_scanScalar.calls _ _ ?_
  unfold jsonparser_ReaderParser_scanScalar.t
  refine s_loop (fun n z w' => ∃ (gB' o' q : Nat), n = j - q ∧ z = (decide (i < q), ()) ∧ i ≤ q ∧ q ≤ j ∧ RI s win g h hp w' gB' o' q ∧ (r = true → o' = o) ∧ Mv g h hp w gB w' gB') (j - i) (false, ()) rfl ⟨gB, o, i, rfl, by rw [decide_eq_false (Nat.lt_irrefl i)]; rfl, Nat.le_refl _, by omega, H, fun _ => rfl, Mv.refl _ _ _ _ _⟩ ?_
  rintro n z w3 ⟨gB3, o3, q, rfl, rfl, hiq, hqj, H3, hr3, mv3⟩
  show sat _ (jsonparser_ReaderParser_scanScalar.t1 (some ⟨g, 0, none⟩) r (decide (i < q))) _ _
  unfold jsonparser_ReaderParser_scanScalar.t1
  refine s_call (peek_any (r := r) H3 (by omega)) ?_
  rintro en w4 ⟨rfl, gB4, o4, e4, ps4, H4, hie4, hr4, mv4⟩
  refine ⟨(bt s (q : Int), Value.nilIface, ()), rfl, s_chk rfl (sat_iteF.2 ?_)⟩
  obtain ⟨c, _, hbc⟩ := bt_nat s q
  dsimp only
  rw [hbc]
  refine s_call delim_any ?_
  rintro en w5 ⟨⟨d, rfl, hd⟩, rfl⟩
  refine ⟨d, rfl, ?_⟩
  have hr5 : r = true → o4 = o := fun e => (hr4 e).trans (hr3 e)
  cases d with
  | true =>
    have hE : Ka.isE (bt s (q : Int)) := by rw [hbc]; exact hd.1 rfl
    have : q = j := by
      rcases Nat.lt_or_ge q j with g1 | g1
      · exact absurd hE (hn q hiq g1)
      · omega
    subst this
    rw [decide_eq_true hij]
    refine sat_iteT.2 (sat_iteF.2 (s_leaf ?_))
    rw [if_neg (by decide)]
    exact ⟨rfl, rfl, gB4, o4, ⟨e4, ps4, H4⟩, hr5, mv3.trans mv4⟩
  | false =>
    have hE : ¬ Ka.isE (bt s (q : Int)) := by
      rw [hbc]; intro hh
      have := hd.2 hh
      cases this
    have hlt : q < j := by
      rcases Nat.lt_or_ge q j with g1 | g1
      · exact g1
      · have : q = j := by omega
        subst this
        exact absurd hj hE
    obtain ⟨op, pc, ob, k, buf, Hb⟩ := id H4
    refine sat_iteF.2 (s_ptr (s_load ((q - o4 : Nat) : Int) (by rw [addr_add, Nat.zero_add, Hb.rp.cell]; rfl) (s_ptr (s_next H4 hie4 rfl fun w6 H6 k6 => s_leaf ?_))))
    rw [if_pos rfl]
    exact ⟨j - (q + 1), (true, ()), rfl, by omega, gB4, o4, q + 1, rfl, by rw [decide_eq_true (by omega : i < q + 1)]; rfl, by omega, hlt, ⟨e4, ps4, H6⟩, hr5, (mv3.trans mv4).trans (Mv.on k6)⟩
end Go.Proofs.YtlfebfkphgelfaaDoor.Yr
