/- jsonparser's ReaderParser over pieces: scanComposite. No statement of the set is proved here. -/
import Derived.Test.YtlfebfkphgelfaaDoorYg
namespace Go.Proofs.YtlfebfkphgelfaaDoor.Yr
open Go Go.Proofs Go.RowKit Go.Proofs.YtlfebfkphgelfaaDoor.Rx Go.Proofs.YtlfebfkphgelfaaDoor.Tr Go.Proofs.YtlfebfkphgelfaaDoor.Pl Go.Proofs.YtlfebfkphgelfaaDoor.Pw
open Go.Proofs.YtlfebfkphgelfaaDoor.Sr (Sl slV tBs tB)
open Go.Proofs.YtlfebfkphgelfaaDoor.Yp (Se Sc)

variable {w w' w'' : World} {s : ByteArray} {win : Int} {g h hp gB o i j e : Nat} {ps : List ByteArray} {r : Bool}
/-- A slice of one element, built. -/
theorem build1 {P : Program} {t e : TypeId} {i : TypeInfo} {z0 : Value} {size : Nat} (ht : P.underlying t = some (.slice e)) (hi : P.info? e = some i) (hz : i.zero = some z0)
    (hsize : i.size = size) (h0 : 0 < size) (h24 : size ≤ 16777216) (part : Value) (cs : List Value) (hp : part.cells = cs.toArray) (hcs : cs.length = size) :
    (Instr.buildSlice t 1 #[(0, part)]).run P w = .ok (.slice (some ⟨w.heap.size, 0, none⟩) 1 1) (w.alloc (.cells cs.toArray e)) := by
  subst hsize
  obtain ⟨r, hr, hrs, hrk⟩ := Great.fill_dense h0 [part] 0 ((Array.range (1 * i.size)).map (z0.cells[· % z0.cells.size]!)) (fun u hu => by simp at hu; subst hu; rw [hp]; simpa using hcs) (by simp)
  have hr2 : r = cs.toArray := by
    apply Array.ext_getElem?
    intro k
    rw [hrk k]
    simp only [Nat.zero_mul, Nat.zero_le, true_and, List.length_cons, List.length_nil, Nat.zero_add, Nat.one_mul]
    by_cases hk : k < i.size
    · rw [if_pos hk, Nat.div_eq_of_lt hk, Nat.mod_eq_of_lt hk]
      simp [hp]
    · rw [if_neg hk]
      simp
      rw [Array.getElem?_eq_none (by simp; omega), List.getElem?_eq_none (by omega)]
      rfl
  subst hr2
  exact run_buildSlice (P := P) w t e 1 #[(0, part)] cs.toArray i z0 ht hi hz (by omega) (by omega) (by simpa using hr)
/-- A slice of one byte, built. -/
theorem built1 (w : World) (c : Int) : (Instr.buildSlice tBs 1 #[(0, .int .u8 c)]).run Tryd.prog w = .ok (.slice (some ⟨w.heap.size, 0, none⟩) 1 1) (w.alloc (.cells #[.int .u8 c] tB)) :=
  build1 (size := 1) (z0 := .int .u8 0) Tryd.underlying36 (info_some (by kernel_rfl)) (by kernel_rfl) (by kernel_rfl) (by decide) (by decide) (.int .u8 c) [.int .u8 c] rfl rfl
theorem own_form {base n size : Nat} {t : TypeId} {v : Sl} {xs : List Value} (H : w.ownsRow base t size (slV v) (n + 1) xs) : ∃ g0 cap, v = (some ⟨g0, 0, none⟩, n + 1, cap) ∧ n + 1 ≤ cap ∧ base ≤ g0 ∧ g0 < w.heap.size := by
  obtain ⟨a, l, c⟩ := v
  obtain ⟨_, ⟨hv, h0⟩ | ⟨g0, cap, cur, hv, hbg, hg, hnc, _⟩⟩ := H
  · omega
  · cases hv
    exact ⟨g0, c, rfl, hnc, hbg, (Array.getElem?_eq_some_iff.1 hg).1⟩
theorem own_pop {base n cap g0 : Nat} {t : TypeId} {xs : List Value} (H : w.ownsRow base t 1 (.slice (some ⟨g0, 0, none⟩) (n + 1) cap) (n + 1) xs) : w.ownsRow base t 1 (.slice (some ⟨g0, 0, none⟩) n cap) n (xs.take n) := by
  obtain ⟨h1, ⟨h2, _⟩ | ⟨g', cap', cur, hv, hb, hg, hnc, hm, hs, ht⟩⟩ := H
  · cases h2
  · cases hv
    refine ⟨by rw [List.length_take]; omega, .inr ⟨g0, cap, cur, rfl, hb, hg, by omega, hm, hs, ?_⟩⟩
    rw [← ht, List.take_take, Nat.mul_one, Nat.min_eq_left (by omega)]
theorem own_ge {base size n b : Nat} {t : TypeId} {v : Sl} {xs : List Value} (h : w.ownsRow base t size (slV v) n xs) (hb : some b = (slV v).ownBlock) : base ≤ b := by
  obtain ⟨_, ⟨hv, _⟩ | ⟨g, cap, cur, hv, hbg, _⟩⟩ := h
  · rw [hv] at hb; cases hb
  · rw [hv] at hb
    have : b = g := by simpa [Value.ownBlock] using hb
    omega
/-- The awaited brackets, as a row's cells. -/
def stC (st : List Int) : List Value := st.reverse.map fun c => .int .u8 c
theorem stC_len (st : List Int) : (stC st).length = st.length := by unfold stC; rw [List.length_map, List.length_reverse]
theorem stC_cons (c : Int) (st : List Int) : stC (c :: st) = stC st ++ [.int .u8 c] := by unfold stC; rw [List.reverse_cons, List.map_append]; rfl
/-- Where a scan among brackets is. -/
def Cs (s : ByteArray) (win : Int) (g h hp : Nat) (w : World) (gB o j : Nat) (r : Bool) (q : Nat) (v : Sl) (st : List Int) (w' : World) : Prop := ∃ gB' o', Sc s q st j ∧ w'.ownsRow w.heap.size tB 1 (slV v) st.length (stC st) ∧ (∀ b, some b = (slV v).ownBlock → b ≠ gB') ∧ RI s win g h hp w' gB' o' q ∧ (r = true → o' = o) ∧ Mv g h hp w gB w' gB'
/-- A bracket is put on the stack. -/
theorem push_st {v : Sl} {st : List Int} {w1 : World} {gB1 o1 e1 q : Nat} {ps1 : List ByteArray} (c : Int) (hgl : g < w.heap.size ∧ h < w.heap.size ∧ hp < w.heap.size) (ho : w1.ownsRow w.heap.size tB 1 (slV v) st.length (stC st)) (hb : ∀ b, some b = (slV v).ownBlock → b ≠ gB1) (H : RS s win g h hp w1 gB1 o1 q e1 ps1) (hst : st.length ≤ 100000) (hz : w.heap.size ≤ w1.heap.size) :
    ∃ w2, (Instr.buildSlice tBs 1 #[(0, .int .u8 c)]).run Tryd.prog w1 = .ok (.slice (some ⟨w1.heap.size, 0, none⟩) 1 1) w2 ∧ ∃ (v' : Sl) (w3 : World), (Builtin.append_ #[tBs, tBs] tBs #[slV v, .slice (some ⟨w1.heap.size, 0, none⟩) 1 1]).run Tryd.prog w2 = .ok (slV v') w3 ∧
      w3.ownsRow w.heap.size tB 1 (slV v') (c :: st).length (stC (c :: st)) ∧ (∀ b, some b = (slV v').ownBlock → b ≠ gB1) ∧ RS s win g h hp w3 gB1 o1 q e1 ps1 ∧ Kp (fun q => w.heap.size ≤ q ∧ q ≠ gB1) w1 w3 := by
  obtain ⟨w2, h1, a, c', w3, h3, h4, h5, h6⟩ := push_run (P := Tryd.prog) (w := w1) (base := w.heap.size) (t := tBs) (e := tB) (z0 := .int .u8 0) (size := 1) Tryd.underlying36 (info_some (by kernel_rfl)) (by kernel_rfl) (by kernel_rfl) (of_decide_eq_true (by kernel_rfl)) rfl (by decide) (by decide) ho (.int .u8 c) [.int .u8 c] rfl rfl (fun u hu => by
    rcases List.mem_cons.1 hu with rfl | hu
    · rfl
    · exact absurd hu List.not_mem_nil) (by omega) hz
  have kk : Kp (fun q => w.heap.size ≤ q ∧ q ≠ gB1) w1 w3 := h5.mono fun q _ hq => ⟨own_ge ho hq, hb q hq⟩
  refine ⟨w2, h1, (a, st.length + 1, c'), w3, h3, ?_, fun b hbb => ?_, H.kp h5 fun q hq hf => ?_, kk⟩
  · rw [stC_cons]; exact h4
  · rcases h6 b hbb with e | e
    · exact hb b e
    · obtain ⟨op, pc, ob, k, buf, Hb⟩ := H
      have := Hb.gl
      omega
  · have h7 := own_ge ho hq
    rcases hf with e | e | e | e
    · omega
    · omega
    · omega
    · exact hb q hq e
/-- One round. -/
theorem comp_round {v : Sl} {q : Nat} {c : Int} {st : List Int} {w1 : World} (hgl : g < w.heap.size ∧ h < w.heap.size ∧ hp < w.heap.size) (hjs : j ≤ s.size) (hss : s.size ≤ 3000) (C : Cs s win g h hp w gB o j r q v (c :: st) w1) {q2 : Int} {Q : Nat → List Value → World → Prop}
    (hQ : ∀ (v' : Sl) (q' : Nat) (st' : List Int) (w' : World), q < q' → Cs s win g h hp w gB o j r q' v' st' w' → Q 1 [slV v'] w') :
    sat Tryd.prog (jsonparser_ReaderParser_scanComposite.t1 (some ⟨g, 0, none⟩) r q2 v) Q w1 := by
  obtain ⟨gB1, o1, hsc, ho, hb, H, hr1, mv1⟩ := C
  have hle := hsc.le
  rw [List.length_cons] at hle
  have hz1 := mv1.1.size
  obtain ⟨g0, cap, rfl, hcap, hg0, hgl0⟩ := own_form ho
  unfold jsonparser_ReaderParser_scanComposite.t1
  refine s_iteD (fun _ => ?_) (fun g1 => absurd (by show (0 : Int) < ((st.length + 1 : Nat) : Int); omega) g1)
  refine s_call (peek_any (r := r) H (by omega)) ?_
  rintro en w2 ⟨rfl, gB2, o2, e2, ps2, H2, hie, hr2, mv2⟩
  have hg02 : g0 ≠ gB1 := hb g0 rfl
  have hfr : ∀ q, some q = (slV (some ⟨g0, 0, none⟩, st.length + 1, cap)).ownBlock → ¬ Fr g h hp gB1 q := fun q hq hf => by
    have hq : q = g0 := by simpa [slV, Value.ownBlock] using hq
    rcases hf with e | e | e | e <;> omega
  have ho2 := owns_kp ho mv2.1 hfr
  have hb2 : ∀ b, some b = (slV (some ⟨g0, 0, none⟩, st.length + 1, cap)).ownBlock → b ≠ gB2 := fun b hbb => by
    have hbb : b = g0 := by simpa [slV, Value.ownBlock] using hbb
    rcases mv2.2 with e | e <;> omega
  have mv := mv1.trans mv2
  have hr : r = true → o2 = o := fun e => (hr2 e).trans (hr1 e)
  clear H hb ho hr1 hr2 mv1
  have hz2 := mv2.1.size
  clear mv2
  refine ⟨(bt s (q : Int), Value.nilIface, ()), rfl, s_chk rfl (sat_iteF.2 ?_)⟩
  refine s_cut (fun z w' => z = (decide (bt s (q : Int) = 34), ()) ∧ w2 = w') ?_ ?_
  · refine s_iteE (fun e => s_leaf ?_) (fun n1 => s_iteE (fun e => ?_) (fun _ => s_leaf ?_))
    · have e : bt s (q : Int) = 34 := e
      rw [if_pos rfl, decide_eq_true e]; exact ⟨(true, ()), rfl, rfl, rfl⟩
    · have n1 : bt s (q : Int) ≠ 34 := n1
      obtain ⟨op, pc, ob, k, buf, Hb⟩ := id H2
      refine s_ptr (s_load false (by rw [addr_add, addr_add, Nat.zero_add, Hb.rp.cell]; rfl) (s_leaf ?_))
      rw [if_pos rfl, decide_eq_false n1]; exact ⟨(false, ()), rfl, rfl, rfl⟩
    · have n1 : bt s (q : Int) ≠ 34 := n1
      rw [if_pos rfl, decide_eq_false n1]; exact ⟨(false, ()), rfl, rfl, rfl⟩
  rintro _ w' ⟨rfl, rfl⟩
  show sat _ (jsonparser_ReaderParser_scanComposite.t2 (some ⟨g, 0, none⟩) r (some ⟨g0, 0, none⟩, st.length + 1, cap) (bt s (q : Int), Value.nilIface, ()) (decide (bt s (q : Int) = 34))) _ _
  unfold jsonparser_ReaderParser_scanComposite.t2
  refine s_iteD (fun h34 => ?_) (fun n34 => ?_)
  · -- a string
    obtain ⟨q', hse, hsc'⟩ : ∃ q', Se s (q + 1) false q' ∧ Sc s q' (c :: st) j := by
      cases hsc with
      | str _ a b => exact ⟨_, a, b⟩
      | opo a _ => omega
      | opa a _ => omega
      | cls a b _ => omega
      | oth _ a _ _ _ _ _ => exact absurd h34 a
    have hql := hse.le
    refine s_call (string_any (r := r) ⟨e2, ps2, H2⟩ h34 hse) ?_
    rintro en w3 ⟨rfl, gB3, o3, H3, hr3, mv3⟩
    refine ⟨.nilIface, rfl, s_chk rfl (sat_iteF.2 (s_leaf ?_))⟩
    have hfr3 : ∀ q, some q = (slV (some ⟨g0, 0, none⟩, st.length + 1, cap)).ownBlock → ¬ Fr g h hp gB2 q := fun q hq hf => by
      have h9 := hb2 q hq
      have hq : q = g0 := by simpa [slV, Value.ownBlock] using hq
      rcases hf with e | e | e | e <;> omega
    refine hQ (some ⟨g0, 0, none⟩, st.length + 1, cap) q' (c :: st) w3 (by omega) ⟨gB3, o3, hsc', owns_kp ho2 mv3.1 hfr3, fun b hbb => ?_, H3, fun e => (hr3 e).trans (hr e), mv.trans mv3⟩
    have h9 := hb2 b hbb
    have hbb : b = g0 := by simpa [slV, Value.ownBlock] using hbb
    rcases mv3.2 with e | e <;> omega
  have hlen : (c :: st).length ≤ 100000 := by rw [List.length_cons]; omega
  refine s_iteE (fun h123 => ?_) (fun n123 => s_iteE (fun h91 => ?_) (fun n91 => ?_))
  · have h123 : bt s (q : Int) = 123 := h123
    have hsc' : Sc s (q + 1) (125 :: c :: st) j := by
      cases hsc with
      | str a _ _ => omega
      | opo _ b => exact b
      | opa a _ => omega
      | cls a b _ => omega
      | oth _ _ a _ _ _ _ => exact absurd h123 a
    obtain ⟨w3, hb3, v', w4, ha4, ho4, hb4, H4, k4⟩ := push_st (w := w) 125 hgl ho2 hb2 H2 hlen (by omega)
    refine s_eff (some ⟨w2.heap.size, 0, none⟩, 1, 1) hb3 (s_eff v' ha4 ?_)
    obtain ⟨op, pc, ob, k, buf, Hb⟩ := id H4
    refine s_ptr (s_load ((q - o2 : Nat) : Int) (by rw [addr_add, Nat.zero_add, Hb.rp.cell]; rfl) (s_ptr (s_next H4 hie rfl fun w5 H5 k5 => s_leaf ?_)))
    refine hQ v' (q + 1) (125 :: c :: st) w5 (by omega) ⟨gB2, o2, hsc', owns_kp ho4 k5 fun b hbb e => ?_, hb4, ⟨e2, ps2, H5⟩, hr, ⟨(mv.1.then k4 fun b hbl e => by omega).trans (k5.mono fun b _ e => .inl e), mv.2⟩⟩
    have := own_ge ho4 hbb
    have e : b = g := e
    omega
  · have h91 : bt s (q : Int) = 91 := h91
    have hsc' : Sc s (q + 1) (93 :: c :: st) j := by
      cases hsc with
      | str a _ _ => omega
      | opo a _ => omega
      | opa _ b => exact b
      | cls a b _ => omega
      | oth _ _ _ a _ _ _ => exact absurd h91 a
    obtain ⟨w3, hb3, v', w4, ha4, ho4, hb4, H4, k4⟩ := push_st (w := w) 93 hgl ho2 hb2 H2 hlen (by omega)
    refine s_eff (some ⟨w2.heap.size, 0, none⟩, 1, 1) hb3 (s_eff v' ha4 ?_)
    obtain ⟨op, pc, ob, k, buf, Hb⟩ := id H4
    refine s_ptr (s_load ((q - o2 : Nat) : Int) (by rw [addr_add, Nat.zero_add, Hb.rp.cell]; rfl) (s_ptr (s_next H4 hie rfl fun w5 H5 k5 => s_leaf ?_)))
    refine hQ v' (q + 1) (93 :: c :: st) w5 (by omega) ⟨gB2, o2, hsc', owns_kp ho4 k5 fun b hbb e => ?_, hb4, ⟨e2, ps2, H5⟩, hr, ⟨(mv.1.then k4 fun b hbl e => by omega).trans (k5.mono fun b _ e => .inl e), mv.2⟩⟩
    have := own_ge ho4 hbb
    have e : b = g := e
    omega
  · have n123 : bt s (q : Int) ≠ 123 := n123
    have n91 : bt s (q : Int) ≠ 91 := n91
    refine s_cut (fun z w' => z = (decide (bt s (q : Int) = 125 ∨ bt s (q : Int) = 93), (some ⟨g0, 0, none⟩, st.length + 1, cap), ()) ∧ w2 = w') (s_iteE (fun e => s_leaf ?_) (fun ne => s_leaf ?_)) ?_
    · have e : bt s (q : Int) = 125 := e
      rw [if_pos rfl, decide_eq_true (.inl e)]
      refine ⟨(true, (some ⟨g0, 0, none⟩, st.length + 1, cap), ()), ?_, rfl, rfl⟩
      show [Value.bool (bt s (q : Int) == 125), _] = _
      rw [beq_iff_eq.2 e]; rfl
    · have ne : bt s (q : Int) ≠ 125 := ne
      rw [if_pos rfl]
      refine ⟨(bt s (q : Int) == 93, (some ⟨g0, 0, none⟩, st.length + 1, cap), ()), rfl, ?_, rfl⟩
      have : (bt s (q : Int) == 93) = decide (bt s (q : Int) = 125 ∨ bt s (q : Int) = 93) := by
        by_cases e : bt s (q : Int) = 93
        · rw [beq_iff_eq.2 e, decide_eq_true (.inr e)]
        · rw [beq_eq_false_iff_ne.2 e, decide_eq_false (by rintro (a | a) <;> contradiction)]
      rw [this]; rfl
    rintro _ w' ⟨rfl, rfl⟩
    show sat _ (jsonparser_ReaderParser_scanComposite.t3 (some ⟨g, 0, none⟩) (bt s (q : Int), Value.nilIface, ()) (decide (bt s (q : Int) = 125 ∨ bt s (q : Int) = 93)) (some ⟨g0, 0, none⟩, st.length + 1, cap)) _ _
    unfold jsonparser_ReaderParser_scanComposite.t3
    have fin : ∀ (n : Nat) (st' : List Int), st'.length = n → Sc s (q + 1) st' j → w2.ownsRow w.heap.size tB 1 (slV (some ⟨g0, 0, none⟩, n, cap)) st'.length (stC st') → sat Tryd.prog (jsonparser_ReaderParser_scanComposite.t4 (some ⟨g, 0, none⟩) (some ⟨g0, 0, none⟩, n, cap)) Q w2 := by
      intro n st' hn hs' ho'
      unfold jsonparser_ReaderParser_scanComposite.t4
      obtain ⟨op, pc, ob, k, buf, Hb⟩ := id H2
      refine s_ptr (s_load ((q - o2 : Nat) : Int) (by rw [addr_add, Nat.zero_add, Hb.rp.cell]; rfl) (s_ptr (s_next H2 hie rfl fun w5 H5 k5 => s_leaf ?_)))
      refine hQ (some ⟨g0, 0, none⟩, n, cap) (q + 1) st' w5 (by omega) ⟨gB2, o2, hs', owns_kp ho' k5 fun b hbb e => ?_, fun b hbb => hb2 b hbb, ⟨e2, ps2, H5⟩, hr, mv.trans (Mv.on k5)⟩
      have := own_ge ho' hbb
      have e : b = g := e
      omega
    by_cases hcl : bt s (q : Int) = 125 ∨ bt s (q : Int) = 93
    · rw [decide_eq_true hcl]
      obtain ⟨hcq, hsc'⟩ : bt s (q : Int) = c ∧ Sc s (q + 1) st j := by
        cases hsc with
        | str a _ _ => exact absurd a n34
        | opo a _ => exact absurd a n123
        | opa a _ => exact absurd a n91
        | cls a b d => exact ⟨b, d⟩
        | oth _ _ _ _ a b _ => omega
      have e1 : IntKind.wrap IntKind.i64 (((st.length + 1 : Nat) : Int) - (1 : Int)) = (st.length : Int) := by rw [wrap_in (by omega) (by omega)]; omega
      have ho2' : w2.ownsRow w.heap.size tB 1 (.slice (some ⟨g0, 0, none⟩) (st.length + 1) cap) (st.length + 1) (stC (c :: st)) := ho2
      have htop := World.ownsRow.cellAt ho2' st.length (by omega)
      rw [stC_cons, List.getElem?_append_right (by rw [stC_len]; exact Nat.le_refl _), stC_len, Nat.sub_self] at htop
      refine s_cut (fun z w' => z = (true, (some ⟨g0, 0, none⟩, st.length, cap), ()) ∧ w2 = w') (sat_iteT.2 ?_) ?_
      · dsimp only
        rw [e1]
        refine s_chk ⟨by omega, by omega⟩ (s_ptr (s_load c (by rw [addr_add, Int.toNat_natCast, Nat.zero_add, Nat.mul_one]; exact htop) (s_iteN (fun ne => absurd hcq ne) (fun _ => s_chk ⟨by omega, by omega, by omega⟩ (s_leaf ?_)))))
        rw [if_pos rfl, Int.toNat_natCast, Nat.sub_zero, Nat.sub_zero, if_neg (by omega : cap ≠ 0), Option.map_some, addr_add, Nat.add_zero]
        exact ⟨(true, (some ⟨g0, 0, none⟩, st.length, cap), ()), rfl, rfl, rfl⟩
      rintro _ w' ⟨rfl, rfl⟩
      refine fin st.length st rfl hsc' ?_
      have h8 := own_pop ho2'
      rw [stC_cons, List.take_left' (stC_len st)] at h8
      exact h8
    · rw [decide_eq_false hcl]
      have hsc' : Sc s (q + 1) (c :: st) j := by
        cases hsc with
        | str a _ _ => exact absurd a n34
        | opo a _ => exact absurd a n123
        | opa a _ => exact absurd a n91
        | cls a b d => exact absurd (by omega) hcl
        | oth _ _ _ _ _ _ d => exact d
      refine s_cut (fun z w' => z = (false, (some ⟨g0, 0, none⟩, st.length + 1, cap), ()) ∧ w2 = w') (sat_iteF.2 (s_leaf ?_)) ?_
      · rw [if_pos rfl]
        exact ⟨(false, (some ⟨g0, 0, none⟩, st.length + 1, cap), ()), rfl, rfl, rfl⟩
      rintro _ w' ⟨rfl, rfl⟩
      exact fin (st.length + 1) (c :: st) rfl hsc' ho2
end Go.Proofs.YtlfebfkphgelfaaDoor.Yr
