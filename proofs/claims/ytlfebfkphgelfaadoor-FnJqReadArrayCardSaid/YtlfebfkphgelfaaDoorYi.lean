/- jsonparser's ReaderParser over pieces: scanValue, captureValue. No statement of the set is proved here. -/
import Derived.Test.YtlfebfkphgelfaaDoorYh
namespace Go.Proofs.YtlfebfkphgelfaaDoor.Yr
open Go Go.Proofs Go.RowKit Go.Proofs.YtlfebfkphgelfaaDoor.Rx Go.Proofs.YtlfebfkphgelfaaDoor.Tr Go.Proofs.YtlfebfkphgelfaaDoor.Pl Go.Proofs.YtlfebfkphgelfaaDoor.Pw
open Go.Proofs.YtlfebfkphgelfaaDoor.Sr (Sl slV tBs tB)
open Go.Proofs.YtlfebfkphgelfaaDoor.Yp (Se Sc se_str sc_E sc_M)

variable {w w' w'' : World} {s : ByteArray} {win : Int} {g h hp gB o i j e : Nat} {ps : List ByteArray} {r : Bool}
theorem comp_any {c : Int} (H : RS s win g h hp w gB o i e ps) (hie : i < e) (hop : (bt s (i : Int) = 91 ∧ c = 93) ∨ (bt s (i : Int) = 123 ∧ c = 125)) (hsc : Sc s (i + 1) [c] j) (hjs : j ≤ s.size) :
    Calls Tryd.prog 70 #[.pointer (some ⟨g, 0, none⟩), .bool r, .int .u8 (bt s (i : Int))] w fun en w' => en = .returned .nilIface ∧ Sn s win g h hp w gB o j r w' := by
  refine jsonparser_ReaderParser_scanComposite.calls _ _ _ ?_
  unfold jsonparser_ReaderParser_scanComposite.t
  have hcl : Calls Tryd.prog 79 #[.int .u8 (bt s (i : Int))] w fun en w' => en = .returned (.int .u8 c) ∧ w' = w := by
    refine jsonparser_closingDelimiter.calls _ ?_
    unfold jsonparser_closingDelimiter.t
    refine s_iteE (fun e => s_leaf ⟨rfl, ?_, rfl⟩) (fun e => s_leaf ⟨rfl, ?_, rfl⟩)
    · rcases hop with ⟨_, rfl⟩ | ⟨h1, _⟩
      · rfl
      · omega
    · rcases hop with ⟨h1, _⟩ | ⟨_, rfl⟩
      · omega
      · rfl
  refine s_call hcl ?_
  rintro en w1 ⟨rfl, rfl⟩
  refine ⟨c, rfl, s_eff (some ⟨w1.heap.size, 0, none⟩, 1, 1) (built1 w1 c) ?_⟩
  have hown := World.ownsRow_lit (e := tB) (size := 1) w1 #[.int .u8 c] 1 (Nat.le_refl w1.heap.size) (by decide) rfl
  have kn : Kp Off w1 (w1.alloc (.cells #[.int .u8 c] tB)) := (Kp.refl Off w1).alloc _
  have H2 := H.off kn
  obtain ⟨op, pc, ob, k, buf, Hb⟩ := id H
  have hss := Hb.sz
  have hgl : g < w1.heap.size ∧ h < w1.heap.size ∧ hp < w1.heap.size := ⟨Hb.rp.lt, Hb.pr.1.lt, Hb.hpl⟩
  have hBl := Hb.gl
  generalize w1.alloc (.cells #[.int .u8 c] tB) = w2 at hown kn H2
  obtain ⟨op2, pc2, ob2, k2, buf2, Hb2⟩ := id H2
  refine s_ptr (s_load ((i - o : Nat) : Int) (by rw [addr_add, Nat.zero_add, Hb2.rp.cell]; rfl) (s_ptr (s_next H2 hie rfl fun w3 H3 k3 => ?_)))
  have hC : Cs s win g h hp w1 gB o j r (i + 1) (some ⟨w1.heap.size, 0, none⟩, 1, 1) [c] w3 := by
    refine ⟨gB, o, hsc, owns_kp hown k3 fun b hb e => ?_, fun b hb => ?_, ⟨e, ps, H3⟩, fun _ => rfl, ⟨kn.off.trans (k3.mono fun q _ e => .inl e), .inl rfl⟩⟩
    · have hb : b = w1.heap.size := by simpa [slV, Value.ownBlock] using hb
      have e : b = g := e
      omega
    · have hb : b = w1.heap.size := by simpa [slV, Value.ownBlock] using hb
      omega
  refine s_loop (fun n z w' => ∃ (q : Nat) (v : Sl) (st : List Int), n = j - q ∧ z = (v, ()) ∧ Cs s win g h hp w1 gB o j r q v st w') (j - (i + 1)) ((some ⟨w1.heap.size, 0, none⟩, 1, 1), ()) rfl ⟨i + 1, _, [c], rfl, rfl, hC⟩ ?_
  rintro n z w4 ⟨q, v, st, rfl, rfl, C⟩
  show sat _ (jsonparser_ReaderParser_scanComposite.t1 (some ⟨g, 0, none⟩) r (bt s (i : Int)) v) _ _
  cases st with
  | nil =>
    obtain ⟨gB1, o1, hsc1, ho1, _, HI, hr1, mv1⟩ := C
    have hq : q = j := by cases hsc1; rfl
    subst hq
    have hv : v.2.1 = 0 := by
      obtain ⟨_, ⟨hv, _⟩ | ⟨g0, cap, cur, hv, _⟩⟩ := ho1
      · obtain ⟨a, l, d⟩ := v
        cases hv; rfl
      · obtain ⟨a, l, d⟩ := v
        cases hv; rfl
    unfold jsonparser_ReaderParser_scanComposite.t1
    refine s_iteD (fun g1 => absurd g1 (by rw [hv]; decide)) (fun _ => s_leaf ?_)
    rw [if_neg (by decide)]
    exact ⟨rfl, rfl, gB1, o1, HI, hr1, mv1⟩
  | cons d st =>
    have hle := C.choose_spec.choose_spec.1.le
    rw [List.length_cons] at hle
    refine comp_round hgl hjs hss C fun v' q' st' w' hlt C' => ?_
    rw [if_pos rfl]
    exact ⟨j - q', (v', ()), rfl, by omega, q', v', st', rfl, rfl, C'⟩
theorem notE_of_isL {c : Int} (h : isL c = true) : ¬ Ka.isE c ∧ c ≠ 34 ∧ c ≠ 39 ∧ c ≠ 91 ∧ c ≠ 123 := by
  have := isL_iff.1 h
  unfold Ka.isE
  omega
theorem value_any {p : PT} (H : RI s win g h hp w gB o p.b) (hw : WfV s p) (hE : Ka.isE (bt s (p.e : Int))) (hes : p.e < s.size) :
    Calls Tryd.prog 62 #[.pointer (some ⟨g, 0, none⟩), .bool r] w fun en w' => en = .returned .nilIface ∧ Sn s win g h hp w gB o p.e r w' := by
  have hlt := hw.lt
  refine jsonparser_ReaderParser_scanValue.calls _ _ ?_
  unfold jsonparser_ReaderParser_scanValue.t
  refine s_call (peek_any (r := r) H (by omega)) ?_
  rintro en w1 ⟨rfl, gB1, o1, e1, ps1, H1, hie, hr1, mv1⟩
  refine ⟨(bt s (p.b : Int), Value.nilIface, ()), rfl, s_chk rfl (sat_iteF.2 ?_)⟩
  have from1 : ∀ {w2 : World} {en : Ending}, (en = .returned .nilIface ∧ Sn s win g h hp w1 gB1 o1 p.e r w2) → en = .returned .nilIface ∧ Sn s win g h hp w gB o p.e r w2 := by
    rintro w2 en ⟨he, gB2, o2, a, b, c⟩
    exact ⟨he, gB2, o2, a, fun e => (b e).trans (hr1 e), mv1.trans c⟩
  refine s_cut (fun z w' => z = (decide (bt s (p.b : Int) = 34), ()) ∧ w1 = w') ?_ ?_
  · refine s_iteE (fun e => s_leaf ?_) (fun n1 => s_iteE (fun e => ?_) (fun _ => s_leaf ?_))
    · have e : bt s (p.b : Int) = 34 := e
      rw [if_pos rfl, decide_eq_true e]; exact ⟨(true, ()), rfl, rfl, rfl⟩
    · have n1 : bt s (p.b : Int) ≠ 34 := n1
      obtain ⟨op, pc, ob, k, buf, Hb⟩ := id H1
      refine s_ptr (s_load false (by rw [addr_add, addr_add, Nat.zero_add, Hb.rp.cell]; rfl) (s_leaf ?_))
      rw [if_pos rfl, decide_eq_false n1]; exact ⟨(false, ()), rfl, rfl, rfl⟩
    · have n1 : bt s (p.b : Int) ≠ 34 := n1
      rw [if_pos rfl, decide_eq_false n1]; exact ⟨(false, ()), rfl, rfl, rfl⟩
  rintro _ w' ⟨rfl, rfl⟩
  show sat _ (jsonparser_ReaderParser_scanValue.t1 (some ⟨g, 0, none⟩) r (bt s (p.b : Int), Value.nilIface, ()) (decide (bt s (p.b : Int) = 34))) _ _
  unfold jsonparser_ReaderParser_scanValue.t1
  have str : bt s (p.b : Int) = 34 → Se s (p.b + 1) false p.e := by
    intro h34
    obtain ⟨k, b, e, ns, ks⟩ := p
    unfold WfV at hw
    obtain ⟨_, _, ⟨_, _, hL, _⟩ | ⟨_, _, _, _, h2⟩ | ⟨_, _, h1, _⟩ | ⟨_, h1, _⟩⟩ := hw
    · exact absurd h34 (notE_of_isL (hL b (Nat.le_refl _) (by assumption))).2.1
    · exact se_str _ _ _ (Nat.le_refl _) h2
    · have h34 : bt s (b : Int) = 34 := h34
      omega
    · have h34 : bt s (b : Int) = 34 := h34
      omega
  have arr : bt s (p.b : Int) = 91 → Sc s (p.b + 1) [93] p.e := by
    intro h34
    obtain ⟨k, b, e, ns, ks⟩ := p
    have h34 : bt s (b : Int) = 91 := h34
    unfold WfV at hw
    obtain ⟨_, _, ⟨_, _, hL, _⟩ | ⟨_, _, _, h1, _⟩ | ⟨_, _, h1, h2⟩ | ⟨_, h1, _⟩⟩ := hw
    · exact absurd h34 (notE_of_isL (hL b (Nat.le_refl _) (by assumption))).2.2.2.1
    · omega
    · exact sc_E true ks (b + 1) e [] e h2 .fin
    · omega
  have obj : bt s (p.b : Int) = 123 → Sc s (p.b + 1) [125] p.e := by
    intro h34
    obtain ⟨k, b, e, ns, ks⟩ := p
    have h34 : bt s (b : Int) = 123 := h34
    unfold WfV at hw
    obtain ⟨_, _, ⟨_, _, hL, _⟩ | ⟨_, _, _, h1, _⟩ | ⟨_, _, h1, _⟩ | ⟨_, h1, h2⟩⟩ := hw
    · exact absurd h34 (notE_of_isL (hL b (Nat.le_refl _) (by assumption))).2.2.2.2
    · omega
    · omega
    · exact sc_M true ks (b + 1) e ns [] e h2 .fin
  have lit : bt s (p.b : Int) ≠ 34 → bt s (p.b : Int) ≠ 91 → bt s (p.b : Int) ≠ 123 → ∀ q, p.b ≤ q → q < p.e → ¬ Ka.isE (bt s (q : Int)) := by
    intro n1 n2 n3 q hq1 hq2
    obtain ⟨k, b, e, ns, ks⟩ := p
    have n1 : bt s (b : Int) ≠ 34 := n1
    have n2 : bt s (b : Int) ≠ 91 := n2
    have n3 : bt s (b : Int) ≠ 123 := n3
    unfold WfV at hw
    obtain ⟨_, _, ⟨_, _, hL, _⟩ | ⟨_, _, _, h1, _⟩ | ⟨_, _, h1, _⟩ | ⟨_, h1, _⟩⟩ := hw
    · exact (notE_of_isL (hL q hq1 hq2)).1
    · exact absurd h1 n1
    · exact absurd h1 n2
    · exact absurd h1 n3
  refine s_iteD (fun h34 => ?_) (fun n34 => s_iteE (fun h91 => ?_) (fun n91 => s_iteE (fun h123 => ?_) (fun n123 => ?_)))
  · refine s_call (string_any (r := r) ⟨e1, ps1, H1⟩ h34 (str h34)) ?_
    rintro en w2 hs2
    obtain ⟨rfl, hs3⟩ := from1 hs2
    exact ⟨.nilIface, rfl, s_leaf ⟨rfl, rfl, hs3⟩⟩
  · refine s_call (comp_any (r := r) H1 hie (.inl ⟨h91, rfl⟩) (arr h91) (by omega)) ?_
    rintro en w2 hs2
    obtain ⟨rfl, hs3⟩ := from1 hs2
    exact ⟨.nilIface, rfl, s_leaf ⟨rfl, rfl, hs3⟩⟩
  · refine s_call (comp_any (r := r) H1 hie (.inr ⟨h123, rfl⟩) (obj h123) (by omega)) ?_
    rintro en w2 hs2
    obtain ⟨rfl, hs3⟩ := from1 hs2
    exact ⟨.nilIface, rfl, s_leaf ⟨rfl, rfl, hs3⟩⟩
  · refine s_call (scalar_any (r := r) ⟨e1, ps1, H1⟩ hlt.1 hes (lit n34 n91 n123) hE) ?_
    rintro en w2 hs2
    obtain ⟨rfl, hs3⟩ := from1 hs2
    exact ⟨.nilIface, rfl, s_leaf ⟨rfl, rfl, hs3⟩⟩
theorem capture_any {p : PT} (H : RI s win g h hp w gB o i) (hb : bl s i = p.b) (hw : WfV s p) (hE : Ka.isE (bt s (p.e : Int))) (hes : p.e < s.size) :
    Calls Tryd.prog 43 #[.pointer (some ⟨g, 0, none⟩)] w fun en w' => (∃ x : Sl, en = .returned (.tuple #[slV x, .nilIface]) ∧ Ka.Tx w' x s p.b p.e) ∧ ∃ gB' o', RI s win g h hp w' gB' o' p.e ∧ Mv g h hp w gB w' gB' := by
  have hlt := hw.lt
  refine jsonparser_ReaderParser_captureValue.calls _ ?_
  unfold jsonparser_ReaderParser_captureValue.t
  refine s_call (skip_any H (by omega)) ?_
  rintro en w1 ⟨rfl, gB1, o1, e1, ps1, H1, hie, _, mv1⟩
  rw [hb] at H1
  refine ⟨.nilIface, rfl, s_chk rfl (sat_iteF.2 (s_call (discard_any H1) ?_))⟩
  rintro en w2 ⟨rfl, H2, k2⟩
  refine ⟨(), rfl, ?_⟩
  have mv2 := mv1.trans (Mv.on (h := h) (hp := hp) (gB := gB1) k2)
  obtain ⟨op, pc, ob, k, buf, Hb⟩ := id H2
  refine s_ptr (s_load (0 : Int) (by rw [addr_add, Nat.zero_add, Hb.rp.cell, Nat.sub_self]; rfl) (s_call (value_any (r := true) ⟨e1, ps1, H2⟩ hw hE hes) ?_))
  rintro en w3 ⟨rfl, gB3, o3, ⟨e3, ps3, H3⟩, ho3, mv3⟩
  have ho3 := ho3 rfl
  subst ho3
  refine ⟨.nilIface, rfl, s_chk rfl (sat_iteF.2 (s_drew ?_))⟩
  have kd : Kp Off w3 w3.drew := (Kp.refl Off w3).drew
  have H4 := H3.off kd
  have mv4 := (mv2.trans mv3).trans (Mv.off (g := g) (h := h) (hp := hp) (gB := gB3) kd)
  generalize w3.drew = w4 at H4 mv4
  obtain ⟨op, pc, ob, k, buf, Hb⟩ := id H4
  have ho4 := Hb.ord
  have hl := Hb.len
  have hlc := Hb.lec
  refine s_ptr (s_load buf (by rw [addr_add, Nat.zero_add, Hb.rp.cell]; rfl) (s_ptr (s_load ((p.e - p.b : Nat) : Int) (by rw [addr_add, Nat.zero_add, Hb.rp.cell]; rfl) (s_chk ⟨by omega, by omega, by omega⟩ (s_leaf ⟨rfl, ⟨((if buf.2.2 = 0 then buf.1 else buf.1.map fun y => y.add (0 * 1)), p.e - p.b, buf.2.2), rfl, ?_⟩, gB3, p.b, ⟨e3, ps3, H4⟩, mv4⟩)))))
  rcases Hb.bf with h0 | ⟨h1, h2, h3⟩
  · omega
  have hne : buf.2.2 ≠ 0 := by omega
  rw [if_neg hne, h1]
  refine ⟨rfl, Nat.le_of_lt hlt.1, hlt.2, by show p.e - p.b ≤ buf.2.2; omega, gB3, ob, rfl, Hb.gl, fun j hj => h2 j (by omega)⟩
end Go.Proofs.YtlfebfkphgelfaaDoor.Yr
