/- jsonparser's ReaderParser over pieces: ArrayEach with the thin package's call back. No statement of the set is proved here. -/
import Derived.Test.YtlfebfkphgelfaaDoorYi
namespace Go.Proofs.YtlfebfkphgelfaaDoor.Yr
open Go Go.Proofs Go.RowKit Go.Proofs.YtlfebfkphgelfaaDoor.Rx Go.Proofs.YtlfebfkphgelfaaDoor.Tr Go.Proofs.YtlfebfkphgelfaaDoor.Pl Go.Proofs.YtlfebfkphgelfaaDoor.Pw
open Go.Proofs.YtlfebfkphgelfaaDoor.Sr (Sl slV)
open Go.Proofs.YtlfebfkphgelfaaDoor.Ka (Tx cfg cget_any rb re jk)

abbrev tF : TypeId := 44
abbrev tFs : TypeId := 38
variable {w w' w'' : World} {s : ByteArray} {win : Int} {g h hp gB o i j e N W0 : Nat} {ps : List ByteArray} {ks1 : List PT}
/-- What is told of a place. -/
def fc (s : ByteArray) (c : PT) : List Value := [.string (ByteArray.mk #[]), .string (s.extract (rb c) (re c)), .int .i64 (jk c.k), .int .i64 0]
def fcs (s : ByteArray) (ks : List PT) : List Value := ks.flatMap (fc s)
theorem fcs_snoc (ks : List PT) (c : PT) : fcs s (ks ++ [c]) = fcs s ks ++ fc s c := by unfold fcs; rw [List.flatMap_append]; simp
/-- The parser at a place, and what is told so far. -/
structure AE (W0 N : Nat) (s : ByteArray) (win : Int) (g h hp : Nat) (w : World) (ks1 : List PT) (gB o j : Nat) : Prop where
  ri : RI s win g h hp w gB o j
  row : ∃ u : Sl, Blk w N [slV u] tFs ∧ w.ownsRow W0 tF 4 (slV u) ks1.length (fcs s ks1) ∧ ∀ b, some b = (slV u).ownBlock → b ≠ g ∧ b ≠ h ∧ b ≠ hp ∧ b ≠ gB ∧ b ≠ N
  nN : N ≠ g ∧ N ≠ h ∧ N ≠ hp ∧ N ≠ gB
  w0 : W0 ≤ g ∧ W0 ≤ h ∧ W0 ≤ hp ∧ W0 ≤ gB ∧ W0 ≤ N
/-- What is written from W0 on. -/
def Up (W0 : Nat) : Nat → Prop := fun q => W0 ≤ q
theorem AE.mv {gB2 o2 j2 : Nat} (A : AE W0 N s win g h hp w ks1 gB o j) (m : Mv g h hp w gB w' gB2) (H : RI s win g h hp w' gB2 o2 j2) : AE W0 N s win g h hp w' ks1 gB2 o2 j2 ∧ Kp (Up W0) w w' := by
  obtain ⟨u, hb, ho, hn⟩ := A.row
  obtain ⟨n1, n2, n3, n4⟩ := A.nN
  obtain ⟨z1, z2, z3, z4, z5⟩ := A.w0
  have hNl := hb.lt
  have hg : W0 ≤ gB2 := by rcases m.2 with e | e <;> omega
  refine ⟨⟨H, ⟨u, m.1.blk hb (fun hf => by rcases hf with e | e | e | e <;> omega), owns_kp ho m.1 (fun b hbb hf => ?_), fun b hbb => ?_⟩, ⟨n1, n2, n3, by rcases m.2 with e | e <;> omega⟩, ⟨z1, z2, z3, hg, z5⟩⟩, m.1.mono fun q _ hf => ?_⟩
  · obtain ⟨c1, c2, c3, c4, c5⟩ := hn b hbb
    rcases hf with e | e | e | e <;> omega
  · obtain ⟨c1, c2, c3, c4, c5⟩ := hn b hbb
    refine ⟨c1, c2, c3, ?_, c5⟩
    rcases m.2 with e | e
    · omega
    · obtain ⟨_, ⟨hv, _⟩ | ⟨g0, cap, cur, hv, hbg, hg0, _⟩⟩ := ho
      · rw [hv] at hbb; cases hbb
      · rw [hv] at hbb
        have hbb : b = g0 := by simpa [Value.ownBlock] using hbb
        have := (Array.getElem?_eq_some_iff.1 hg0).1
        omega
  · show W0 ≤ q
    rcases hf with e | e | e | e <;> omega
theorem AE.off (A : AE W0 N s win g h hp w ks1 gB o j) (k : Kp Off w w') : AE W0 N s win g h hp w' ks1 gB o j := by
  obtain ⟨e, ps, H⟩ := A.ri
  exact (A.mv (Mv.off k) ⟨e, ps, H.off k⟩).1
theorem tell_any {c : PT} {y : Sl} (A : AE W0 N s win g h hp w ks1 gB o j) (hk : ks1.length ≤ 100000) (hT : Tx w y s (rb c) (re c)) :
    Calls Tryd.prog 24 (#[] ++ #[slV y, .int .i64 (jk c.k), .nilIface] ++ #[.pointer (some ⟨N, 0, none⟩)]) w fun en w' => en = .returned (.tuple #[]) ∧ AE W0 N s win g h hp w' (ks1 ++ [c]) gB o j ∧ Kp (Up W0) w w' := by
  obtain ⟨u, hb, ho, hn⟩ := A.row
  obtain ⟨n1, n2, n3, n4⟩ := A.nN
  obtain ⟨z1, z2, z3, z4, z5⟩ := A.w0
  have hNl := hb.lt
  refine impl_JqReadArray_1.calls _ _ _ _ _ _ ?_
  unfold impl_JqReadArray_1.t
  refine s_ptr (s_load u (hb.cell 0) ?_)
  refine s_eff (w' := w) (s.extract (rb c) (re c)) hT.toStr ?_
  obtain ⟨w1, h1, a', c', w2, h2, h3, h4, h5⟩ := push_run (P := Tryd.prog) (t := tFs) (e := tF) (z0 := .agg #[.string (ByteArray.mk #[]), .string (ByteArray.mk #[]), .int .i64 0, .int .i64 0]) Tryd.underlying38 (info_some (by kernel_rfl)) (by kernel_rfl) (by kernel_rfl)
    (of_decide_eq_true (by kernel_rfl)) rfl (by decide) (by decide) ho (.agg #[.string (ByteArray.mk #[]), .string (s.extract (rb c) (re c)), .int .i64 (jk c.k), .int .i64 0]) (fc s c) rfl rfl (by intro u hu; simp [fc] at hu; rcases hu with rfl | rfl | rfl | rfl <;> rfl) (by omega) (by omega)
  refine s_eff (some ⟨w.heap.size, 0, none⟩, 1, 1) h1 (s_eff (a', ks1.length + 1, c') h2 ?_)
  have hb2 : Blk w2 N [slV u] tFs := h4.blk hb fun e => (hn N e).2.2.2.2 rfl
  have hz2 := h4.size
  refine s_ptr (s_store (hb2.cell 0) (hb2.free 0) ?_)
  have kz : Kp (On N) w2 (w2.setCell ⟨N, 0, none⟩ (slV (a', ks1.length + 1, c'))) := (Kp.refl _ w2).on 0 _
  have b3 : Blk (w2.setCell ⟨N, 0, none⟩ (slV (a', ks1.length + 1, c'))) N [slV (a', ks1.length + 1, c')] tFs := hb2.set 0 _
  show sat _ _ _ (w2.setCell ⟨N, 0, none⟩ (slV (a', ks1.length + 1, c')))
  generalize w2.setCell ⟨N, 0, none⟩ (slV (a', ks1.length + 1, c')) = w3 at kz b3
  have kk : Kp (fun q => q = N ∨ some q = (slV u).ownBlock) w w3 := (h4.mono fun q _ e => .inr e).trans (kz.mono fun q _ e => .inl e)
  obtain ⟨e0, ps0, H0⟩ := A.ri
  have hgBl : gB < w.heap.size ∧ g < w.heap.size ∧ h < w.heap.size ∧ hp < w.heap.size := by
    obtain ⟨op, pc, ob, k, buf, Hb⟩ := H0
    exact ⟨Hb.gl, Hb.rp.lt, Hb.pr.1.lt, Hb.hpl⟩
  have hnew : ∀ b, some b = (slV (a', ks1.length + 1, c')).ownBlock → b ≠ g ∧ b ≠ h ∧ b ≠ hp ∧ b ≠ gB ∧ b ≠ N := fun b hbb => by
    rcases h5 b hbb with e | e
    · exact hn b e
    · exact ⟨by omega, by omega, by omega, by omega, by omega⟩
  refine s_leaf ⟨rfl, rfl, ⟨⟨e0, ps0, H0.kp kk fun q hq hf => ?_⟩, ⟨(a', ks1.length + 1, c'), b3, ?_, hnew⟩, ⟨n1, n2, n3, n4⟩, ⟨z1, z2, z3, z4, z5⟩⟩, kk.mono fun q _ hq => ?_⟩
  · rcases hq with e | e
    · rcases hf with e' | e' | e' | e' <;> omega
    · obtain ⟨c1, c2, c3, c4, c5⟩ := hn q e
      rcases hf with e' | e' | e' | e' <;> omega
  · rw [List.length_append, fcs_snoc]
    exact owns_kp h3 kz fun b hbb e => (hnew b hbb).2.2.2.2 e
  · show W0 ≤ q
    rcases hq with e | e
    · omega
    · exact own_ge ho e
theorem first_ne {p : PT} (hw : WfV s p) : bt s (p.b : Int) ≠ 93 := by
  obtain ⟨k, b, e, ns, ks⟩ := p
  show bt s (b : Int) ≠ 93
  unfold WfV at hw
  obtain ⟨hlt, _, ⟨_, _, hL, _⟩ | ⟨_, _, _, h1, _⟩ | ⟨_, _, h1, _⟩ | ⟨_, h1, _⟩⟩ := hw
  · have := isL_iff.1 (hL b (Nat.le_refl _) hlt)
    omega
  · omega
  · omega
  · omega
theorem behind {j : Nat} {more : List PT} {e : Nat} (hE : WfE s false j more e) : Ka.isE (bt s (j : Int)) ∧ bl s j < s.size := by
  have h1 : bt s (bl s j : Int) = 93 ∨ bt s (bl s j : Int) = 44 := by
    cases more with
    | nil => unfold WfE at hE; exact .inl hE.1
    | cons c m =>
      unfold WfE at hE
      obtain ⟨h, _⟩ := hE
      simp only [Bool.false_eq_true, if_false] at h
      exact .inr h.1
  refine ⟨?_, lt_of_bt (by omega)⟩
  cases hb : isB (bt s (j : Int)) with
  | true =>
    have := isB_iff.1 hb
    unfold Ka.isE; omega
  | false =>
    rw [bl_no hb] at h1
    unfold Ka.isE; omega
/-- Where the loop stands: an element begins. -/
def Lp (W0 N : Nat) (s : ByteArray) (win : Int) (g h hp : Nat) (w0 : World) (p : PT) (n : Nat) (w : World) : Prop := ∃ (done : List PT) (c : PT) (more : List PT) (gB o : Nat), p.ks = done ++ c :: more ∧ n = more.length ∧ AE W0 N s win g h hp w done gB o c.b ∧ WfV s c ∧ bl s c.b = c.b ∧ WfE s false c.e more p.e ∧ Kp (Up W0) w0 w
/-- What ArrayEach leaves. -/
def Fin (W0 N : Nat) (s : ByteArray) (w0 : World) (p : PT) (w : World) : Prop := (∃ u : Sl, Blk w N [slV u] tFs ∧ w.ownsRow W0 tF 4 (slV u) p.ks.length (fcs s p.ks)) ∧ Kp (Up W0) w0 w
theorem AE.fin {w0 : World} {p : PT} (A : AE W0 N s win g h hp w p.ks gB o j) (k : Kp (Up W0) w0 w) : Fin W0 N s w0 p w := by
  obtain ⟨u, a, b, _⟩ := A.row
  exact ⟨⟨u, a, b⟩, k⟩
/-- The parser's place moves on by one. -/
theorem ae_next {Q : Nat → List Value → World → Prop} {K : T} (A : AE W0 N s win g h hp w ks1 gB o j) (H : RS s win g h hp w gB o j e ps) (hi : j < e) (hK : ∀ w', AE W0 N s win g h hp w' ks1 gB o (j + 1) → Kp (Up W0) w w' → sat Tryd.prog K Q w') :
    sat Tryd.prog (.ptr (some ⟨g, 0, none⟩) fun (z29 : Addr) => .load (Addr.add z29 3) (.int .i64) fun (i30 : Int) => .ptr (some ⟨g, 0, none⟩) fun (z31 : Addr) => .store (Addr.add z31 3) (Value.int IntKind.i64 (IntKind.wrap IntKind.i64 (i30 + (1 : Int)))) K) Q w := by
  obtain ⟨op, pc, ob, k, buf, Hb⟩ := id H
  refine s_ptr (s_load ((j - o : Nat) : Int) (by rw [addr_add, Nat.zero_add, Hb.rp.cell]; rfl) (s_ptr (s_next H hi rfl fun w2 H2 k2 => ?_)))
  obtain ⟨A2, ku⟩ := A.mv (Mv.on k2) ⟨e, ps, H2⟩
  exact hK w2 A2 ku
theorem loop_any {p : PT} {w0 : World} {n : Nat} {Q : Nat → List Value → World → Prop} (hss : s.size ≤ 3000) (hkl : p.ks.length ≤ 100000) (L : Lp W0 N s win g h hp w0 p n w)
    (hQ : ∀ w', Fin W0 N s w0 p w' → Q 0 [.nilIface] w') (hL : ∀ n' w', n' < n → Lp W0 N s win g h hp w0 p n' w' → Q 1 [] w') :
    sat Tryd.prog (jsonparser_ReaderParser_ArrayEach.t1 (some ⟨g, 0, none⟩) (.func (.func 24) #[] #[.pointer (some ⟨N, 0, none⟩)])) Q w := by
  obtain ⟨done, c, more, gB, o, hks, rfl, A, hwc, hbc, hE, k0⟩ := L
  have hcl := hwc.lt
  obtain ⟨hisE, hbl⟩ := behind hE
  have hble := bl_ge s c.e
  have hdl : done.length ≤ 100000 := by rw [hks, List.length_append] at hkl; omega
  unfold jsonparser_ReaderParser_ArrayEach.t1
  refine s_call (capture_any A.ri hbc hwc hisE (by omega)) ?_
  rintro en w1 ⟨⟨x, rfl, hT⟩, gB1, o1, H1, mv1⟩
  refine ⟨(x, Value.nilIface, ()), rfl, s_chk rfl (sat_iteF.2 ?_)⟩
  obtain ⟨A1, ku1⟩ := A.mv mv1 H1
  have k1 := k0.trans ku1
  obtain ⟨e1, ps1, H1⟩ := H1
  obtain ⟨op, pc, ob, k, buf, Hb⟩ := id H1
  refine s_ptr (s_eff (w' := w1) (false, false, win, ()) (Je.loadAt_cells (cs := [.bool false, .bool false, .int .i64 win]) (by kernel_rfl) (info_some (by kernel_rfl)) (by kernel_rfl) (fun j v hj => ?_)) ?_)
  · rw [addr_add, addr_add, Nat.zero_add, Hb.rp.cell]
    have hj3 : j < 3 := (List.getElem?_eq_some_iff.1 hj).1
    have : j = 0 ∨ j = 1 ∨ j = 2 := by omega
    rcases this with rfl | rfl | rfl <;> exact hj
  refine s_call (cget_any (m := win) (p := c) (q := none) (c := 0) hT (by omega) hwc hbc (Nat.le_refl _) (.inl rfl)) ?_
  rintro en w2 ⟨y, rfl, hTy, _, k2⟩
  refine ⟨(y, jk c.k, ((c.e - c.b : Nat) : Int), Value.nilIface, ()), rfl, ?_⟩
  have A2 := A1.off k2
  have k02 := k1.trans k2.off
  refine ⟨24, #[], #[.pointer (some ⟨N, 0, none⟩)], rfl, by kernel_rfl, Calls.mono (tell_any A2 hdl hTy) ?_⟩
  rintro en w3 ⟨rfl, A3, k3⟩
  refine ⟨(), rfl, s_chk rfl (sat_iteF.2 ?_)⟩
  have k03 := k02.trans k3
  refine s_call (skip_any A3.ri hbl) ?_
  rintro en w4 ⟨rfl, gB4, o4, e4, ps4, H4, hie4, _, mv4⟩
  obtain ⟨A4, ku4⟩ := A3.mv mv4 ⟨e4, ps4, H4⟩
  have k04 := k03.trans ku4
  refine ⟨.nilIface, rfl, s_chk rfl (sat_iteF.2 (s_call (peek_any (r := false) A4.ri hbl) ?_))⟩
  rintro en w5 ⟨rfl, gB5, o5, e5, ps5, H5, hie5, _, mv5⟩
  obtain ⟨A5, ku5⟩ := A4.mv mv5 ⟨e5, ps5, H5⟩
  have k05 := k04.trans ku5
  refine ⟨(bt s (bl s c.e : Int), Value.nilIface, ()), rfl, s_chk rfl (sat_iteF.2 ?_)⟩
  cases more with
  | nil =>
    unfold WfE at hE
    have h93 := hE.1
    refine s_iteE (fun _ => ?_) (fun n => absurd h93 n)
    refine ae_next A5 H5 hie5 fun w6 A6 k6 => s_leaf (hQ w6 ?_)
    have hd : p.ks = done ++ [c] := hks
    rw [← hd] at A6
    exact A6.fin (k05.trans k6)
  | cons c2 more =>
    unfold WfE at hE
    obtain ⟨hh, hw2, hE2⟩ := hE
    simp only [Bool.false_eq_true, if_false] at hh
    obtain ⟨h44, hb2⟩ := hh
    have hl2 := hw2.lt
    have hbb2 : bl s c2.b = c2.b := by
      have : WfE s false c.e (c2 :: more) p.e := by
        unfold WfE
        exact ⟨by simp only [Bool.false_eq_true, if_false]; exact ⟨h44, hb2⟩, hw2, hE2⟩
      exact (Gk.elt_at (c2 :: more) false c.e p.e 0 c2 this rfl).2.2.2
    refine s_iteE (fun n => absurd n (by show bt s (bl s c.e : Int) ≠ 93; omega)) (fun _ => s_iteE (fun _ => ?_) (fun n => absurd h44 n))
    refine ae_next A5 H5 hie5 fun w6 A6 k6 => ?_
    have k06 := k05.trans k6
    refine s_call (skip_any A6.ri (by omega)) ?_
    rintro en w7 ⟨rfl, gB7, o7, e7, ps7, H7, hie7, _, mv7⟩
    obtain ⟨A7, ku7⟩ := A6.mv mv7 ⟨e7, ps7, H7⟩
    have k07 := k06.trans ku7
    rw [← hb2] at A7 H7 hie7
    refine ⟨.nilIface, rfl, s_chk rfl (sat_iteF.2 (s_call (peek_any (r := false) A7.ri (by omega)) ?_))⟩
    rintro en w8 ⟨rfl, gB8, o8, e8, ps8, H8, hie8, _, mv8⟩
    obtain ⟨A8, ku8⟩ := A7.mv mv8 ⟨e8, ps8, H8⟩
    have k08 := k07.trans ku8
    refine ⟨(bt s (c2.b : Int), Value.nilIface, ()), rfl, s_chk rfl (sat_iteF.2 (s_iteE (fun n => absurd n (first_ne hw2)) (fun _ => s_leaf ?_)))⟩
    exact hL more.length w8 (by rw [List.length_cons]; omega) ⟨done ++ [c], c2, more, gB8, o8, by rw [List.append_assoc]; exact hks, rfl, A8, hw2, hbb2, hE2, k08⟩
theorem each_any {p : PT} (hss : s.size ≤ 3000) (hp0 : bl s 0 = p.b) (hw : WfV s p) (h5 : p.k = 5) (A : AE W0 N s win g h hp w [] gB o 0) :
    Calls Tryd.prog 23 #[.pointer (some ⟨g, 0, none⟩), .func (.func 24) #[] #[.pointer (some ⟨N, 0, none⟩)]] w fun en w' => en = .returned .nilIface ∧ Fin W0 N s w p w' := by
  have hlt := hw.lt
  have hlen := Lj.wf_len hw
  obtain ⟨k, b, e, ns, ks⟩ := p
  have hk5 : k = 5 := h5
  subst hk5
  have hp0 : bl s 0 = b := hp0
  obtain ⟨w1, w2, h91, hE⟩ := Gk.wf_arr hw
  have hlen1 : ks.length ≤ s.size := hlen.1
  refine jsonparser_ReaderParser_ArrayEach.calls _ _ ?_
  unfold jsonparser_ReaderParser_ArrayEach.t
  refine s_call (skip_any A.ri (by omega)) ?_
  rintro en w3 ⟨rfl, gB3, o3, e3, ps3, H3, hie3, _, mv3⟩
  obtain ⟨A3, ku3⟩ := A.mv mv3 ⟨e3, ps3, H3⟩
  rw [hp0] at A3 H3 hie3
  refine ⟨.nilIface, rfl, s_chk rfl (sat_iteF.2 (s_call (peek_any (r := false) A3.ri (by omega)) ?_))⟩
  rintro en w4 ⟨rfl, gB4, o4, e4, ps4, H4, hie4, _, mv4⟩
  obtain ⟨A4, ku4⟩ := A3.mv mv4 ⟨e4, ps4, H4⟩
  have k04 := ku3.trans ku4
  refine ⟨(bt s (b : Int), Value.nilIface, ()), rfl, s_chk rfl (sat_iteF.2 (s_iteN (fun n => absurd h91 n) (fun _ => ?_)))⟩
  refine ae_next A4 H4 hie4 fun w5 A5 k5 => ?_
  have k05 := k04.trans k5
  have hbl1 : bl s (b + 1) < s.size ∧ (ks = [] → bt s (bl s (b + 1) : Int) = 93) := by
    cases ks with
    | nil =>
      unfold WfE at hE
      exact ⟨lt_of_bt (by omega), fun _ => hE.1⟩
    | cons c more =>
      unfold WfE at hE
      obtain ⟨hh, hwc, _⟩ := hE
      simp only [if_true] at hh
      have := hwc.lt
      exact ⟨by omega, fun h => by cases h⟩
  refine s_call (skip_any A5.ri hbl1.1) ?_
  rintro en w6 ⟨rfl, gB6, o6, e6, ps6, H6, hie6, _, mv6⟩
  obtain ⟨A6, ku6⟩ := A5.mv mv6 ⟨e6, ps6, H6⟩
  have k06 := k05.trans ku6
  refine ⟨.nilIface, rfl, s_chk rfl (sat_iteF.2 (s_call (peek_any (r := false) A6.ri hbl1.1) ?_))⟩
  rintro en w7 ⟨rfl, gB7, o7, e7, ps7, H7, hie7, _, mv7⟩
  obtain ⟨A7, ku7⟩ := A6.mv mv7 ⟨e7, ps7, H7⟩
  have k07 := k06.trans ku7
  refine ⟨(bt s (bl s (b + 1) : Int), Value.nilIface, ()), rfl, s_chk rfl (sat_iteF.2 ?_)⟩
  cases ks with
  | nil =>
    refine s_iteE (fun _ => ?_) (fun n => absurd (hbl1.2 rfl) n)
    exact ae_next A7 H7 hie7 fun w8 A8 k8 => s_leaf ⟨rfl, rfl, A8.fin (p := .mk 5 b e ns []) (k07.trans k8)⟩
  | cons c more =>
    have hE0 := hE
    unfold WfE at hE
    obtain ⟨hh, hwc, hE2⟩ := hE
    simp only [if_true] at hh
    rw [← hh] at A7
    have hbb := (Gk.elt_at (c :: more) true (b + 1) e 0 c hE0 rfl).2.2.2
    refine s_iteE (fun n => absurd n (by rw [← hh]; exact first_ne hwc)) (fun _ => ?_)
    refine s_loop (fun n _ w' => Lp W0 N s win g h hp w (.mk 5 b e ns (c :: more)) n w') more.length () rfl ⟨[], c, more, gB7, o7, rfl, rfl, A7, hwc, hbb, hE2, k07⟩ ?_
    intro n z w8 L
    show sat _ (jsonparser_ReaderParser_ArrayEach.t1 (some ⟨g, 0, none⟩) (.func (.func 24) #[] #[.pointer (some ⟨N, 0, none⟩)])) _ _
    refine loop_any hss (by show (c :: more).length ≤ _; omega) L (fun w' F => ?_) (fun n' w' hn' L' => ?_)
    · rw [if_neg (by decide)]; exact ⟨rfl, rfl, F⟩
    · rw [if_pos rfl]; exact ⟨n', (), rfl, hn', L'⟩
end Go.Proofs.YtlfebfkphgelfaaDoor.Yr
