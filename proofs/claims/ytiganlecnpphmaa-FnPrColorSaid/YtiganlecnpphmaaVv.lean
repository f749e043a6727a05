/- The reference's reader: the walk through a value. No statement of the set is proved here. -/
import Derived.Test.YtiganlecnpphmaaVm
namespace Go.Proofs.Ytiganlecnpphmaa.Sr
open Go Go.Proofs Go.Proofs.Ytiganlecnpphmaa.Rx Go.Proofs.Ytiganlecnpphmaa.Tr Go.Proofs.Ytiganlecnpphmaa.Pl

theorem val_str {s : ByteArray} {i : Nat} (h : bt s i = 34) : val s i = (strE s (i + 1)).map fun e => .mk 4 i e [] [] := by
  rw [val, dif_neg (by omega), dif_neg (by omega), if_pos h]
theorem val_num {s : ByteArray} {i : Nat} (h : numOk (bt s i) = true) : val s i = (numE s i).map fun e => .mk 3 i e [] [] := by
  have hh : bt s i = 45 ∨ (48 ≤ bt s i ∧ bt s i ≤ 57) := by
    simp only [numOk, Bool.or_eq_true, beq_iff_eq] at h
    exact h.imp id isDig_iff.1
  rw [val, dif_neg (by omega), dif_neg (by omega), if_neg (by omega), if_pos h]
theorem val_word {s : ByteArray} {i : Nat} (h1 : bt s i ≠ 123) (h2 : bt s i ≠ 91) (h3 : bt s i ≠ 34) (h4 : numOk (bt s i) = false) : val s i =
    if wordB s i nullW then some (.mk 0 i (i + 4) [] []) else if wordB s i falseW then some (.mk 1 i (i + 5) [] []) else if wordB s i trueW then some (.mk 2 i (i + 4) [] []) else none := by
  rw [val, dif_neg h1, dif_neg h2, if_neg h3, if_neg (by rw [h4]; decide)]

theorem s_allocE {P : Program} {Q : Nat → List Value → World → Prop} {w : World} {o : Obj} {k : Addr → T} (n : Nat) (hn : w.heap.size = n) (w' : World) (hw : w.alloc o = w') (h : sat P (k ⟨n, 0, none⟩) Q w') : sat P (.alloc o k) Q w := by
  subst hn; subst hw; exact h
theorem value_any {g : Nat} {s : ByteArray} (hs : s.size < 4294967295) : ∀ (n i : Nat), s.size + 1 - i ≤ n → i ≤ s.size → ValAt g s i := by
  intro n
  induction n with
  | zero => intro i h1 h2; omega
  | succ n ih =>
  intro i hn hi w hR
  have hs' : s.size < 4611686018427387904 := by omega
  have hV : ∀ j, i < j → j ≤ s.size → ValAt g s j := fun j h1 h2 => ih j (by omega) h2
  refine spec_reader_value.calls _ ?_
  unfold spec_reader_value.t
  have hg : g < w.heap.size := Blk.lt hR
  -- the two locals
  refine s_alloc (s_ptr ?_)
  have hb0 := Blk.new w (pc 0 0 0 (none, 0, 0) (none, 0, 0)) tP
  have ka0 : Kp Off w (w.alloc (.cells (pc 0 0 0 (none, 0, 0) (none, 0, 0)).toArray tP (0, 0))) := (Kp.refl Off w).alloc _
  have hR0 := ka0.blk hR (id : ¬ Off g)
  simp only [addr_add, Nat.zero_add]
  refine s_load (i : Int) (hR0.cell 1) ?_
  obtain ⟨wa, hwa⟩ : ∃ x, x = (w.alloc (.cells (pc 0 0 0 (none, 0, 0) (none, 0, 0)).toArray tP (0, 0))).alloc (.cells (pc 0 0 0 (none, 0, 0) (none, 0, 0)).toArray tP (0, 0)) := ⟨_, rfl⟩
  have hb3 := Blk.new (w.alloc (.cells (pc 0 0 0 (none, 0, 0) (none, 0, 0)).toArray tP (0, 0))) (pc 0 0 0 (none, 0, 0) (none, 0, 0)) tP
  have hb0' := hb0.alloc (.cells (pc 0 0 0 (none, 0, 0) (none, 0, 0)).toArray tP (0, 0))
  have ka1 := ka0.alloc (.cells (pc 0 0 0 (none, 0, 0) (none, 0, 0)).toArray tP (0, 0))
  have hz1 : (w.alloc (.cells (pc 0 0 0 (none, 0, 0) (none, 0, 0)).toArray tP (0, 0))).heap.size = w.heap.size + 1 := by simp
  have hza : wa.heap.size = w.heap.size + 2 := by rw [hwa]; simp
  rw [hz1] at hb3
  rw [← hwa] at hb3 hb0' ka1
  refine s_allocE (w.heap.size + 1) hz1 wa hwa.symm ?_
  have hRa : RdAt wa g s i := ka1.blk hR (id : ¬ Off g)
  clear hR0 ka0 hb0 hwa hz1
  obtain ⟨w1, h1, hc1, k1⟩ := storeP hb3 rfl 0 (i : Int) 0 (none, 0, 0) (none, 0, 0)
  refine s_effU h1 ?_
  have hR1 : RdAt w1 g s i := k1.blk hRa fun e => by have : g = w.heap.size + 1 := e; omega
  have hd1 : Blk w1 w.heap.size (pc 0 0 0 (none, 0, 0) (none, 0, 0)) tP := k1.blk hb0' fun e => by have : w.heap.size = w.heap.size + 1 := e; omega
  have k01 : Kp (On g) w w1 := ka1.off.then k1 fun q hq e => by have : q = w.heap.size + 1 := e; omega
  have hz1 : w.heap.size + 2 ≤ w1.heap.size := by have := k1.size; omega
  clear hb3 hb0' k1 ka1 hRa h1
  refine s_call (here_any hR1) ?_
  rintro e w2 ⟨rfl, hR2, k2⟩
  refine ⟨_, rfl, ?_⟩
  have ne0 : ¬ On g w.heap.size := fun e => by have : w.heap.size = g := e; omega
  have ne3 : ¬ On g (w.heap.size + 1) := fun e => by have : w.heap.size + 1 = g := e; omega
  have hc2 := k2.blk hc1 ne3
  have hd2 := k2.blk hd1 ne0
  have k02 := k01.trans k2
  have hz2 : w.heap.size + 2 ≤ w2.heap.size := by have := k2.size; omega
  clear hc1 hd1 hR1 k01 k2
  -- how it ends
  have fin : ∀ {w3 w4 : World} {k b e : Int} {na ka : Sl} {r : Option PT} {j : Nat}, j ≤ s.size → RdAt w3 g s j → Kp (On g) w w3 → w.heap.size + 2 ≤ w3.heap.size → (∀ p, r = some p → j = p.e ∧ PlAt (fun q => w.heap.size ≤ q ∧ q ≠ w.heap.size ∧ q ≠ w.heap.size + 1) w3 p (pc k b e na ka)) →
      Kp (fun q => q = w.heap.size + 1 ∨ q = w.heap.size) w3 w4 → ValPost g s w r (.returned (retVal [.agg (pc k b e na ka).toArray, .bool r.isSome])) w4 := by
    intro w3 w4 k b e na ka r j hj hR3 k3 hz hp k4
    refine ⟨k, b, e, na, ka, j, rfl, hj, k4.blk hR3 (fun e => by omega), k3.then k4 (fun q hq e => by omega), fun p hpp => ?_⟩
    obtain ⟨h1, h2⟩ := hp p hpp
    exact ⟨h1, h2.kp k4 fun q _ h => ⟨h.1, fun e => by omega⟩⟩
  have ne : w.heap.size ≠ w.heap.size + 1 := by omega
  refine s_iteE (fun hc => ?_) (fun hn123 => ?_)
  · -- an object
    have hlt : i < s.size := lt_of_bt (by omega)
    refine s_store (hc2.cell 0) (hc2.free 0) ?_
    have hc3 : Blk _ (w.heap.size + 1) (pc 6 i 0 (none, 0, 0) (none, 0, 0)) tP := hc2.set 0 (.int .i64 6)
    have hd3 := hd2.setOther (a := ⟨w.heap.size + 1, 0, none⟩) (fun e => ne e.symm) (.int .i64 6)
    have hR3 : RdAt _ g s i := Blk.setOther hR2 (a := ⟨w.heap.size + 1, 0, none⟩) (fun e => ne3 e) (.int .i64 6)
    have k03 := k02.setNew (a := ⟨w.heap.size + 1, 0, none⟩) (by simp) (.int .i64 6)
    have hz3 : w.heap.size + 2 ≤ (w2.setCell ⟨w.heap.size + 1, 0, none⟩ (.int .i64 6)).heap.size := by simpa [World.setCell] using hz2
    refine s_call (members_any hs hlt hR3 hV) ?_
    rintro e w4 ⟨na, ka, j, rfl, hj, hR4, k4, hp⟩
    refine ⟨(na, ka, (mems0 s i).isSome, ()), rfl, ?_⟩
    have hc4 := k4.blk hc3 ne3
    have hd4 := k4.blk hd3 ne0
    have k04 := k03.trans k4
    have hz4 : w.heap.size + 2 ≤ w4.heap.size := Nat.le_trans hz3 k4.size
    refine s_store (hc4.cell 3) (hc4.free 3) ?_
    have hc5 : Blk _ (w.heap.size + 1) (pc 6 i 0 na (none, 0, 0)) tP := hc4.set 3 (slV na)
    have hd5 := hd4.setOther (a := ⟨w.heap.size + 1, 3, none⟩) (fun e => ne e.symm) (slV na)
    have hR5 : RdAt _ g s j := Blk.setOther hR4 (a := ⟨w.heap.size + 1, 3, none⟩) (fun e => ne3 e) (slV na)
    have k45 := (Kp.refl (fun q => q = w.heap.size + 1 ∨ q = w.heap.size) w4).set (a := ⟨w.heap.size + 1, 3, none⟩) (Or.inl rfl) (slV na)
    refine s_store (hc5.cell 4) (hc5.free 4) ?_
    have hc6 : Blk _ (w.heap.size + 1) (pc 6 i 0 na ka) tP := hc5.set 4 (slV ka)
    have hd6 := hd5.setOther (a := ⟨w.heap.size + 1, 4, none⟩) (fun e => ne e.symm) (slV ka)
    have hR6 : RdAt _ g s j := Blk.setOther hR5 (a := ⟨w.heap.size + 1, 4, none⟩) (fun e => ne3 e) (slV ka)
    have k46 := k45.set (a := ⟨w.heap.size + 1, 4, none⟩) (Or.inl rfl) (slV ka)
    refine v_end hR6 hc6 hd6 rfl ne fun w7 k7 => ⟨rfl, ?_⟩
    have e1 : (mems0 s i).isSome = (val s i).isSome := by rw [val_obj hc]; simp
    rw [e1]
    refine fin hj hR4 k04 hz4 (fun p hpp => ?_) (k46.trans k7)
    rw [val_obj hc] at hpp
    cases hm : mems0 s i with
    | none => rw [hm] at hpp; cases hpp
    | some x =>
      rw [hm] at hpp; cases hpp
      obtain ⟨rfl, a, xs, b, c⟩ := hp x hm
      have up : ∀ q, q < w4.heap.size → (w2.setCell ⟨w.heap.size + 1, 0, none⟩ (.int .i64 6)).heap.size ≤ q → (w.heap.size ≤ q ∧ q ≠ w.heap.size ∧ q ≠ w.heap.size + 1) ∧ ¬ Off q := fun q _ h => ⟨by omega, id⟩
      exact ⟨rfl, PlAt.mk' (a.kp (Kp.refl Off w4) up) (b.kp (Kp.refl Off w4) up) (c.kp (Kp.refl Off w4) up)⟩
  refine s_iteE (fun hc => ?_) (fun hn91 => ?_)
  · -- an array
    have hlt : i < s.size := lt_of_bt (by omega)
    refine s_store (hc2.cell 0) (hc2.free 0) ?_
    have hc3 : Blk _ (w.heap.size + 1) (pc 5 i 0 (none, 0, 0) (none, 0, 0)) tP := hc2.set 0 (.int .i64 5)
    have hd3 := hd2.setOther (a := ⟨w.heap.size + 1, 0, none⟩) (fun e => ne e.symm) (.int .i64 5)
    have hR3 : RdAt _ g s i := Blk.setOther hR2 (a := ⟨w.heap.size + 1, 0, none⟩) (fun e => ne3 e) (.int .i64 5)
    have k03 := k02.setNew (a := ⟨w.heap.size + 1, 0, none⟩) (by simp) (.int .i64 5)
    have hz3 : w.heap.size + 2 ≤ (w2.setCell ⟨w.heap.size + 1, 0, none⟩ (.int .i64 5)).heap.size := by simpa [World.setCell] using hz2
    refine s_call (elements_any hs hlt hR3 hV) ?_
    rintro e w4 ⟨ka, j, rfl, hj, hR4, k4, hp⟩
    refine ⟨(ka, (elems0 s i).isSome, ()), rfl, ?_⟩
    have hc4 := k4.blk hc3 ne3
    have hd4 := k4.blk hd3 ne0
    have k04 := k03.trans k4
    have hz4 : w.heap.size + 2 ≤ w4.heap.size := Nat.le_trans hz3 k4.size
    refine s_store (hc4.cell 4) (hc4.free 4) ?_
    have hc6 : Blk _ (w.heap.size + 1) (pc 5 i 0 (none, 0, 0) ka) tP := hc4.set 4 (slV ka)
    have hd6 := hd4.setOther (a := ⟨w.heap.size + 1, 4, none⟩) (fun e => ne e.symm) (slV ka)
    have hR6 : RdAt _ g s j := Blk.setOther hR4 (a := ⟨w.heap.size + 1, 4, none⟩) (fun e => ne3 e) (slV ka)
    have k46 := (Kp.refl (fun q => q = w.heap.size + 1 ∨ q = w.heap.size) w4).set (a := ⟨w.heap.size + 1, 4, none⟩) (Or.inl rfl) (slV ka)
    refine v_end hR6 hc6 hd6 rfl ne fun w7 k7 => ⟨rfl, ?_⟩
    have e1 : (elems0 s i).isSome = (val s i).isSome := by rw [val_arr hc]; simp
    rw [e1]
    refine fin hj hR4 k04 hz4 (fun p hpp => ?_) (k46.trans k7)
    rw [val_arr hc] at hpp
    cases hm : elems0 s i with
    | none => rw [hm] at hpp; cases hpp
    | some x =>
      rw [hm] at hpp; cases hpp
      obtain ⟨rfl, xs, b, c⟩ := hp x hm
      have up : ∀ q, q < w4.heap.size → (w2.setCell ⟨w.heap.size + 1, 0, none⟩ (.int .i64 5)).heap.size ≤ q → (w.heap.size ≤ q ∧ q ≠ w.heap.size ∧ q ≠ w.heap.size + 1) ∧ ¬ Off q := fun q _ h => ⟨by omega, id⟩
      exact ⟨rfl, PlAt.mk' RowIn.nil (b.kp (Kp.refl Off w4) up) (c.kp (Kp.refl Off w4) up)⟩
  -- what has neither names nor elements
  have leaf : ∀ {w3 : World} {k : Nat} {r : Option PT} {j : Nat}, Blk w3 (w.heap.size + 1) (pc k i 0 (none, 0, 0) (none, 0, 0)) tP → Blk w3 w.heap.size (pc 0 0 0 (none, 0, 0) (none, 0, 0)) tP → j ≤ s.size → RdAt w3 g s j → Kp (On g) w w3 → w.heap.size + 2 ≤ w3.heap.size →
      (∀ p, r = some p → j = p.e ∧ p = .mk k i j [] []) → ∀ w4, Kp (fun q => q = w.heap.size + 1 ∨ q = w.heap.size) w3 w4 → ValPost g s w r (.returned (retVal [.agg (pc k i j (none, 0, 0) (none, 0, 0)).toArray, .bool r.isSome])) w4 := by
    intro w3 k r j _ _ hj hR3 k3 hz hp w4 k4
    refine fin hj hR3 k3 hz (fun p hpp => ?_) k4
    obtain ⟨h1, h2⟩ := hp p hpp
    exact ⟨h1, by rw [h2]; exact PlAt.leaf⟩
  have kind : ∀ (k : Nat), Blk (w2.setCell ⟨w.heap.size + 1, 0, none⟩ (.int .i64 (k : Int))) (w.heap.size + 1) (pc k i 0 (none, 0, 0) (none, 0, 0)) tP ∧ Blk (w2.setCell ⟨w.heap.size + 1, 0, none⟩ (.int .i64 (k : Int))) w.heap.size (pc 0 0 0 (none, 0, 0) (none, 0, 0)) tP ∧
      RdAt (w2.setCell ⟨w.heap.size + 1, 0, none⟩ (.int .i64 (k : Int))) g s i ∧ Kp (On g) w (w2.setCell ⟨w.heap.size + 1, 0, none⟩ (.int .i64 (k : Int))) ∧ w.heap.size + 2 ≤ (w2.setCell ⟨w.heap.size + 1, 0, none⟩ (.int .i64 (k : Int))).heap.size := fun k =>
    ⟨hc2.set 0 (.int .i64 k), hd2.setOther (a := ⟨w.heap.size + 1, 0, none⟩) (fun e => ne e.symm) (.int .i64 k), Blk.setOther hR2 (a := ⟨w.heap.size + 1, 0, none⟩) (fun e => ne3 e) (.int .i64 k),
      k02.setNew (a := ⟨w.heap.size + 1, 0, none⟩) (by simp) (.int .i64 k), by simpa [World.setCell] using hz2⟩
  refine s_iteE (fun hc => ?_) (fun hn34 => ?_)
  · -- a string
    have hlt : i < s.size := lt_of_bt (by omega)
    refine s_store (hc2.cell 0) (hc2.free 0) ?_
    obtain ⟨hc3, hd3, hR3, k03, hz3⟩ := kind 4
    refine s_call (quoted_any hs' hlt hR3) ?_
    rintro e w4 ⟨j, rfl, hm, hj, hR4, k4⟩
    refine ⟨_, rfl, ?_⟩
    refine v_end hR4 (k4.blk hc3 ne3) (k4.blk hd3 ne0) rfl ne fun w7 k7 => ⟨rfl, ?_⟩
    have e1 : (strE s (i + 1)).isSome = (val s i).isSome := by rw [val_str hc]; simp
    rw [e1]
    refine leaf (k := 4) (k4.blk hc3 ne3) (k4.blk hd3 ne0) hj hR4 (k03.trans k4) (Nat.le_trans hz3 k4.size) (fun p hpp => ?_) w7 k7
    rw [val_str hc] at hpp
    cases hm2 : strE s (i + 1) with
    | none => rw [hm2] at hpp; cases hpp
    | some x => rw [hm2] at hpp; cases hpp; have := hm x hm2; subst this; exact ⟨rfl, rfl⟩
  -- a number, a word
  refine s_cut (fun x w' => x = (numOk (bt s i), ()) ∧ w2 = w') ?_ ?_
  · refine s_iteE (fun h => s_leaf ?_) (fun h => s_iteD (fun h' => s_leaf ?_) (fun h' => s_leaf ?_))
    · rw [if_pos rfl]; exact ⟨(true, ()), rfl, by rw [h]; rfl, rfl⟩
    · rw [if_pos rfl]
      refine ⟨(decide (bt s i ≤ 57), ()), rfl, ?_, rfl⟩
      have : numOk (bt s i) = decide (bt s i ≤ 57) := by simp [numOk, isDig, h, h']
      rw [this]; rfl
    · rw [if_pos rfl]
      refine ⟨(false, ()), rfl, ?_, rfl⟩
      have : numOk (bt s i) = false := by simp [numOk, isDig, h, h']
      rw [this]; rfl
  rintro x w2' ⟨rfl, rfl⟩
  simp only [spec_reader_value.t1]
  cases hN : numOk (bt s i) with
  | true =>
    refine sat_iteT.2 (s_store (hc2.cell 0) (hc2.free 0) ?_)
    obtain ⟨hc3, hd3, hR3, k03, hz3⟩ := kind 3
    refine s_call (number_any hs' hi hR3) ?_
    rintro e w4 ⟨j, rfl, hm, hj, hR4, k4⟩
    refine ⟨_, rfl, ?_⟩
    refine v_end hR4 (k4.blk hc3 ne3) (k4.blk hd3 ne0) rfl ne fun w7 k7 => ⟨rfl, ?_⟩
    have e1 : (numE s i).isSome = (val s i).isSome := by rw [val_num hN]; simp
    rw [e1]
    refine leaf (k := 3) (k4.blk hc3 ne3) (k4.blk hd3 ne0) hj hR4 (k03.trans k4) (Nat.le_trans hz3 k4.size) (fun p hpp => ?_) w7 k7
    rw [val_num hN] at hpp
    cases hm2 : numE s i with
    | none => rw [hm2] at hpp; cases hpp
    | some x => rw [hm2] at hpp; cases hpp; have := hm x hm2; subst this; exact ⟨rfl, rfl⟩
  | false =>
    have hW := val_word hn123 hn91 hn34 hN
    have word : ∀ {w3 : World} {k : Nat} {j : Nat}, RdAt w3 g s j → Kp (On g) w2 w3 → j ≤ s.size → val s i = some (.mk k i j [] []) →
        sat Try.prog (.store (Addr.add ⟨w.heap.size + 1, 0, none⟩ 0) (Value.int IntKind.i64 (k : Int)) <|
          .ptr (some ⟨g, 0, none⟩) fun (z22 : Addr) =>
          .load (Addr.add z22 1) (.int .i64) fun (i23 : Int) =>
          .store (Addr.add ⟨w.heap.size + 1, 0, none⟩ 2) (Value.int IntKind.i64 i23) <|
          .eff (Instr.loadAt tP (Value.pointer (some ⟨w.heap.size + 1, 0, none⟩))) (.agg (.cons (.int .i64) (.cons (.int .i64) (.cons (.int .i64) (.cons .slice (.cons .slice .nil)))))) fun (z24 : (Int × (Int × (Int × (((Option Addr) × (Nat × Nat)) × (((Option Addr) × (Nat × Nat)) × PUnit)))))) =>
          .effU (Instr.storeAt tP (Value.pointer (some ⟨w.heap.size, 0, none⟩)) (Value.agg #[(Value.int IntKind.i64 (z24).1), (Value.int IntKind.i64 ((z24).2).1), (Value.int IntKind.i64 (((z24).2).2).1), (Value.slice (((((z24).2).2).2).1).1 ((((((z24).2).2).2).1).2).1 ((((((z24).2).2).2).1).2).2), (Value.slice ((((((z24).2).2).2).2).1).1 (((((((z24).2).2).2).2).1).2).1 (((((((z24).2).2).2).2).1).2).2)])) <|
          .effS (Instr.loadAt tP (Value.pointer (some ⟨w.heap.size, 0, none⟩))) (.agg (.cons (.int .i64) (.cons (.int .i64) (.cons (.int .i64) (.cons .slice (.cons .slice .nil)))))) fun (z25 : (Int × (Int × (Int × (((Option Addr) × (Nat × Nat)) × (((Option Addr) × (Nat × Nat)) × PUnit)))))) =>
          .leaf 0 [(Value.agg #[(Value.int IntKind.i64 (z25).1), (Value.int IntKind.i64 ((z25).2).1), (Value.int IntKind.i64 (((z25).2).2).1), (Value.slice (((((z25).2).2).2).1).1 ((((((z25).2).2).2).1).2).1 ((((((z25).2).2).2).1).2).2), (Value.slice ((((((z25).2).2).2).2).1).1 (((((((z25).2).2).2).2).1).2).1 (((((((z25).2).2).2).2).1).2).2)]), (Value.bool true)])
          (fun l vs w' => l = 0 ∧ ValPost g s w (val s i) (.returned (retVal vs)) w') w3 := by
      intro w3 k j hR3 k3 hj hv
      have hc3 := k3.blk hc2 ne3
      have hd3 := k3.blk hd2 ne0
      simp only [addr_add, Nat.zero_add]
      refine s_store (hc3.cell 0) (hc3.free 0) ?_
      have hc4 : Blk _ (w.heap.size + 1) (pc k i 0 (none, 0, 0) (none, 0, 0)) tP := hc3.set 0 (.int .i64 k)
      have hd4 := hd3.setOther (a := ⟨w.heap.size + 1, 0, none⟩) (fun e => ne e.symm) (.int .i64 (k : Int))
      have hR4 : RdAt _ g s j := Blk.setOther hR3 (a := ⟨w.heap.size + 1, 0, none⟩) (fun e => ne3 e) (.int .i64 (k : Int))
      have k04 := (k02.trans k3).setNew (a := ⟨w.heap.size + 1, 0, none⟩) (by simp) (.int .i64 (k : Int))
      refine v_end hR4 hc4 hd4 rfl ne fun w7 k7 => ⟨rfl, ?_⟩
      have := leaf (k := k) (r := val s i) hc4 hd4 hj hR4 k04 (by have := k3.size; simp [World.setCell]; omega) (fun p hpp => by rw [hv] at hpp; cases hpp; exact ⟨rfl, rfl⟩) w7 k7
      rw [hv] at this ⊢
      exact this
    refine sat_iteF.2 ?_
    refine s_call (word_any nullW hs' (by decide) hi hR2) ?_
    rintro e w3 ⟨rfl, hR3, k3⟩
    refine ⟨_, rfl, ?_⟩
    cases h0 : wordB s i nullW with
    | true =>
      rw [h0, if_pos rfl] at hR3 hW
      exact sat_iteT.2 (word (k := 0) hR3 k3 (wordB_lt h0) hW)
    | false =>
    rw [h0, if_neg (by decide)] at hR3 hW
    refine sat_iteF.2 (s_call (word_any falseW hs' (by decide) hi hR3) ?_)
    rintro e w4 ⟨rfl, hR4, k4⟩
    refine ⟨_, rfl, ?_⟩
    have k24 := k3.trans k4
    cases h1 : wordB s i falseW with
    | true =>
      rw [h1, if_pos rfl] at hR4 hW
      exact sat_iteT.2 (word (k := 1) hR4 k24 (wordB_lt h1) hW)
    | false =>
    rw [h1, if_neg (by decide)] at hR4 hW
    refine sat_iteF.2 (s_call (word_any trueW hs' (by decide) hi hR4) ?_)
    rintro e w5 ⟨rfl, hR5, k5⟩
    refine ⟨_, rfl, ?_⟩
    have k25 := k24.trans k5
    cases h2 : wordB s i trueW with
    | true =>
      rw [h2, if_pos rfl] at hR5 hW
      exact sat_iteT.2 (word (k := 2) hR5 k25 (wordB_lt h2) hW)
    | false =>
    rw [h2, if_neg (by decide)] at hR5 hW
    refine sat_iteF.2 ?_
    have hc5 := k25.blk hc2 ne3
    have hd5 := k25.blk hd2 ne0
    refine v_end hR5 hc5 hd5 rfl ne fun w7 k7 => ⟨rfl, ?_⟩
    have := leaf (k := 0) (r := val s i) hc5 hd5 hi hR5 (k02.trans k25) (by have := k25.size; omega) (fun p hpp => by rw [hW] at hpp; cases hpp) w7 k7
    rw [hW] at this ⊢
    exact this
theorem value_at {g : Nat} {s : ByteArray} (hs : s.size < 4294967295) {i : Nat} (hi : i ≤ s.size) : ValAt g s i := value_any hs _ i (Nat.le_refl _) hi
end Go.Proofs.Ytiganlecnpphmaa.Sr
