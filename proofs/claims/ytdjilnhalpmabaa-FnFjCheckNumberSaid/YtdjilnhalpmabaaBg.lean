/- The reference's Begins. No statement of the set is proved here. -/
import Derived.Test.YtdjilnhalpmabaaPp
namespace Go.Proofs.Ytdjilnhalpmabaa.Sr
open Go Go.Proofs Go.Proofs.Ytdjilnhalpmabaa.Rx Go.Proofs.Ytdjilnhalpmabaa.Tr Go.Proofs.Ytdjilnhalpmabaa.Pl Go.Proofs.Ytdjilnhalpmabaa.Fn

theorem PlAt.inv {B : Nat → Prop} {w : World} {p : PT} {k b e : Int} {na ka : Sl} (h : PlAt B w p (pc k b e na ka)) : k = p.k ∧ b = p.b ∧ e = p.e := by
  cases p with
  | mk k' b' e' ns ks =>
    unfold PlAt at h
    obtain ⟨na', ka', xs, h1, _⟩ := h
    simp only [pc, List.cons.injEq, Value.int.injEq, true_and] at h1
    exact ⟨h1.1, h1.2.1, h1.2.2.1⟩
/-- A first zero with a digit behind it. -/
def zeroC (s : ByteArray) (e : Nat) : Prop := bt s ((e : Int) - 1) = 48 ∧ (e = 1 ∨ (e = 2 ∧ bt s (0 : Int) = 45)) ∧ e < s.size ∧ isDig (bt s (e : Int)) = true
theorem num_vn {s : ByteArray} {e : Nat} (h : numE s 0 = some e) : (zeroC s e → vnE s 0 = none) ∧ (¬ zeroC s e → vnE s 0 = some e) := by
  have main : ∀ a : Nat, (bt s (0 : Int) = 45 → a = 1) → (bt s (0 : Int) ≠ 45 → a = 0) → intE s a = some e → (zeroC s e → vnD s a = none) ∧ (¬ zeroC s e → vnD s a = some e) := by
    intro a h1 h0 hI
    have hF : ∀ {i m}, i ≤ s.size → fracE s i = some m → i ≤ m := fun {i m} hi h => by
      unfold fracE at h; split at h
      · have h1 : i < s.size := lt_of_bt (by omega)
        split at h
        · have := digs_ge s (i + 1)
          have h3 : digs s (i + 1) ≤ m := by
            unfold expE at h; split at h
            · have h4 : digs s (i + 1) < s.size := lt_of_bt (by omega)
              have h5 : digs s (i + 1) + 1 ≤ signE s (digs s (i + 1) + 1) := by unfold signE; split <;> omega
              unfold expD at h; split at h
              · cases h; have := digs_ge s (signE s (digs s (i + 1) + 1)); omega
              · cases h
            · cases h; omega
          omega
        · cases h
      · unfold expE at h; split at h
        · have h5 : i + 1 ≤ signE s (i + 1) := by unfold signE; split <;> omega
          unfold expD at h; split at h
          · cases h; have := digs_ge s (signE s (i + 1)); omega
          · cases h
        · cases h; omega
    by_cases hz : bt s (a : Int) = 48
    · have hlt : a < s.size := lt_of_bt (by omega)
      rw [intE_zero hz] at hI
      have hea := hF (show a + 1 ≤ s.size from hlt) hI
      have hda : isDig (bt s (a : Int)) = true := by rw [hz]; rfl
      cases hD : isDig (bt s ((a + 1 : Nat) : Int)) with
      | true =>
        have hr := isDig_iff.1 hD
        have hlt2 : a + 1 < s.size := lt_of_bt (by omega)
        rw [fracE_no (by omega), expE_no (by omega)] at hI
        cases hI
        have hd2 : a + 1 < digs s a := by rw [digs_yes hda]; exact digs_gt hD
        constructor
        · intro _; rw [vnD, if_neg (by omega), if_pos ⟨hz, by omega⟩]
        · intro hn
          refine absurd ⟨?_, ?_, hlt2, hD⟩ hn
          · rw [show (((a + 1 : Nat) : Int) - 1) = (a : Int) from by omega]; exact hz
          · by_cases h45 : bt s (0 : Int) = 45
            · right; exact ⟨by rw [h1 h45], h45⟩
            · left; rw [h0 h45]
      | false =>
        have hd2 : digs s a = a + 1 := by rw [digs_yes hda, digs_no hD]
        constructor
        · rintro ⟨_, hc, _, hd⟩
          exfalso
          by_cases h45 : bt s (0 : Int) = 45
          · have := h1 h45; subst this
            rcases hc with hc | ⟨hc, _⟩
            · omega
            · subst hc; rw [hD] at hd; cases hd
          · have := h0 h45; subst this
            rcases hc with hc | ⟨_, hc⟩
            · subst hc; rw [hD] at hd; cases hd
            · exact h45 hc
        · intro _
          rw [vnD, if_neg (by omega), if_neg (fun h => h.2 hd2), hd2]; exact hI
    · cases hD : isDig (bt s (a : Int)) with
      | false => rw [intE_bad hD] at hI; cases hI
      | true =>
        have hlt : a < s.size := lt_of_bt (by have := isDig_iff.1 hD; omega)
        rw [intE_dig hz hD] at hI
        have hg := digs_gt hD
        have hea := hF (digs_le s a (by omega)) hI
        constructor
        · rintro ⟨h48, hc, _, _⟩
          exfalso
          by_cases h45 : bt s (0 : Int) = 45
          · have := h1 h45; subst this
            rcases hc with hc | ⟨hc, _⟩
            · omega
            · subst hc; exact hz h48
          · have := h0 h45; subst this
            rcases hc with hc | ⟨_, hc⟩
            · subst hc; exact hz h48
            · exact h45 hc
        · intro _
          rw [vnD, if_neg (by omega), if_neg (fun h => hz h.1)]; exact hI
  by_cases h45 : bt s ((0 : Nat) : Int) = 45
  · rw [numE_minus h45] at h
    have := main 1 (fun _ => rfl) (fun h => absurd h45 h) h
    rw [vnE, if_pos h45]; exact this
  · rw [numE_plain h45] at h
    have := main 0 (fun h => absurd h h45) (fun _ => rfl) h
    rw [vnE, if_neg h45]; exact this
theorem val_kind3 {s : ByteArray} {i : Nat} {p : PT} (h : val s i = some p) (hk : p.k = 3) : numE s i = some p.e ∧ numOk (bt s i) = true := by
  by_cases h1 : bt s i = 123
  · rw [val_obj h1] at h
    cases hm : mems0 s i with
    | none => rw [hm] at h; cases h
    | some x => rw [hm] at h; cases h; simp [PT.k] at hk
  by_cases h2 : bt s i = 91
  · rw [val_arr h2] at h
    cases hm : elems0 s i with
    | none => rw [hm] at h; cases h
    | some x => rw [hm] at h; cases h; simp [PT.k] at hk
  by_cases h3 : bt s i = 34
  · rw [val_str h3] at h
    cases hm : strE s (i + 1) with
    | none => rw [hm] at h; cases h
    | some x => rw [hm] at h; cases h; simp [PT.k] at hk
  cases h4 : numOk (bt s i) with
  | true =>
    rw [val_num h4] at h
    cases hm : numE s i with
    | none => rw [hm] at h; cases h
    | some x => rw [hm] at h; cases h; exact ⟨rfl, rfl⟩
  | false =>
    rw [val_word h1 h2 h3 h4] at h
    split at h
    · cases h; simp [PT.k] at hk
    · split at h
      · cases h; simp [PT.k] at hk
      · split at h
        · cases h; simp [PT.k] at hk
        · cases h

theorem begins_any {s : ByteArray} {w : World} (hs : s.size < 4294967295) : Calls Try.prog 19 #[.string s] w (PlPost w (begins s)) := by
  have hs' : s.size < 4611686018427387904 := by omega
  refine spec_Begins.calls _ ?_
  unfold spec_Begins.t
  obtain ⟨wr, hwr, hz, w1, h1, hR1, hd1, k1, hz1⟩ := r_new (w := w) s
  refine s_alloc (s_allocE (w.heap.size + 1) hz wr hwr.symm (s_effU h1 ?_))
  have ne0 : ¬ On (w.heap.size + 1) w.heap.size := fun e => by have : w.heap.size = w.heap.size + 1 := e; omega
  refine s_call (value_at hs (Nat.zero_le _) w1 hR1) ?_
  rintro e w3 ⟨k, b, e1, na, ka, j, rfl, hj, hR3, k3, hp⟩
  refine ⟨((k, b, e1, na, ka, ()), (val s 0).isSome, ()), rfl, ?_⟩
  have hd3 := k3.blk hd1 ne0
  have k03 : Kp Off w w3 := k1.then k3 fun q hq e => by have : q = w.heap.size + 1 := e; omega
  have hz3 : w.heap.size + 2 ≤ w3.heap.size := Nat.le_trans hz1 k3.size
  refine s_alloc ?_
  obtain ⟨w4, h4, hc4, k4⟩ := storeP (Blk.new w3 zp tP) rfl k b e1 na ka
  refine s_effU h4 ?_
  have kc : Kp Off w3 w4 := (((Kp.refl (fun q => q = w3.heap.size) w3).alloc _).trans (k4.mono fun q _ h => h)).mono fun q hq h => by omega
  have hd4 := kc.blk hd3 (id : ¬ Off w.heap.size)
  have k04 := k03.trans kc
  have up : ∀ q, q < w3.heap.size → w1.heap.size ≤ q → (w.heap.size ≤ q ∧ q ≠ w.heap.size) ∧ ¬ Off q := fun q _ h => ⟨by omega, id⟩
  have fin : ∀ {w6 : World} {r : Option PT} {k b e1 : Int} {na ka : Sl} {x : Bool}, x = r.isSome → Kp (On w.heap.size) w4 w6 → (∀ p, r = some p → PlAt (fun q => w.heap.size ≤ q ∧ q ≠ w.heap.size) w4 p (pc k b e1 na ka)) →
      PlPost w r (.returned (retVal [.agg (pc k b e1 na ka).toArray, .bool x])) w6 := by
    rintro w6 r k b e1 na ka x rfl k6 hp
    refine ⟨k, b, e1, na, ka, rfl, k04.then k6 fun q hq e => by have : q = w.heap.size := e; omega, fun p hpp => ?_⟩
    exact (hp p hpp).kp k6 fun q _ h => ⟨h.1, fun e => h.2 e⟩
  cases hv : val s 0 with
  | none =>
    refine sat_iteT.2 (p_no hd4 rfl fun w6 k6 => ⟨rfl, ?_⟩)
    exact fin (by rw [begins, hv]; rfl) k6 fun p hp => by rw [begins, hv] at hp; cases hp
  | some p =>
    obtain ⟨rfl, hP⟩ := hp p hv
    have hP4 : PlAt (fun q => w.heap.size ≤ q ∧ q ≠ w.heap.size) w4 p (pc k b e1 na ka) := (hP.kp (Kp.refl Off w3) up).kp kc fun q _ h => ⟨h, fun e => e⟩
    obtain ⟨rfl, rfl, rfl⟩ := hP.inv
    have hend := val_end (Nat.zero_le _) hv
    have yes : begins s = some p → sat Try.prog (.eff (Instr.loadAt tP (Value.pointer (some ⟨w3.heap.size, 0, none⟩))) (.agg (.cons (.int .i64) (.cons (.int .i64) (.cons (.int .i64) (.cons .slice (.cons .slice .nil)))))) fun (z24 : (Int × (Int × (Int × (((Option Addr) × (Nat × Nat)) × (((Option Addr) × (Nat × Nat)) × PUnit)))))) =>
      .effU (Instr.storeAt tP (Value.pointer (some ⟨w.heap.size, 0, none⟩)) (Value.agg #[(Value.int IntKind.i64 (z24).1), (Value.int IntKind.i64 ((z24).2).1), (Value.int IntKind.i64 (((z24).2).2).1), (Value.slice (((((z24).2).2).2).1).1 ((((((z24).2).2).2).1).2).1 ((((((z24).2).2).2).1).2).2), (Value.slice ((((((z24).2).2).2).2).1).1 (((((((z24).2).2).2).2).1).2).1 (((((((z24).2).2).2).2).1).2).2)])) <|
      .effS (Instr.loadAt tP (Value.pointer (some ⟨w.heap.size, 0, none⟩))) (.agg (.cons (.int .i64) (.cons (.int .i64) (.cons (.int .i64) (.cons .slice (.cons .slice .nil)))))) fun (z25 : (Int × (Int × (Int × (((Option Addr) × (Nat × Nat)) × (((Option Addr) × (Nat × Nat)) × PUnit)))))) =>
      .leaf 0 [(Value.agg #[(Value.int IntKind.i64 (z25).1), (Value.int IntKind.i64 ((z25).2).1), (Value.int IntKind.i64 (((z25).2).2).1), (Value.slice (((((z25).2).2).2).1).1 ((((((z25).2).2).2).1).2).1 ((((((z25).2).2).2).1).2).2), (Value.slice ((((((z25).2).2).2).2).1).1 (((((((z25).2).2).2).2).1).2).1 (((((((z25).2).2).2).2).1).2).2)]), (Value.bool true)]) (fun l vs w' => l = 0 ∧ PlPost w (begins s) (.returned (retVal vs)) w') w4 := fun hbg =>
      p_yes hc4 hd4 rfl fun w6 k6 => ⟨rfl, fin (by rw [hbg]; rfl) k6 fun p' hp => by rw [hbg] at hp; cases hp; exact hP4⟩
    refine sat_iteF.2 ?_
    simp only [addr_add, Nat.zero_add]
    have hc0 := hc4.cell 0
    have hc2 := hc4.cell 2
    refine s_load (p.k : Int) hc0 ?_
    have notnum : p.k ≠ 3 → begins s = some p := fun h => by rw [begins, hv]; exact if_neg fun c => h c.1
    refine s_iteE (fun hk => ?_) (fun hk => yes (notnum (by omega)))
    obtain ⟨hnum, _⟩ := val_kind3 hv (by omega)
    obtain ⟨vn1, vn2⟩ := num_vn hnum
    have good : ¬ zeroC s p.e → begins s = some p := fun h => by rw [begins, hv]; exact if_neg fun c => by rw [vn2 h] at c; cases c.2
    have bad : zeroC s p.e → begins s = none := fun h => by rw [begins, hv]; exact if_pos ⟨by omega, vn1 h⟩
    have no : zeroC s p.e → ∀ w6, Kp (On w.heap.size) w4 w6 → PlPost w (begins s) (.returned (retVal [.agg zp.toArray, .bool false])) w6 := fun h w6 k6 => by
      refine fin (by rw [bad h]; rfl) k6 fun p' hp => by rw [bad h] at hp; cases hp
    refine s_load (p.e : Int) hc2 ?_
    have e1 : IntKind.wrap .i64 ((p.e : Int) - 1) = (p.e : Int) - 1 := wrap_in (by omega) (by omega)
    rw [e1]
    refine s_chk (by omega) ?_
    refine s_iteE (fun h48 => ?_) (fun h48 => yes (good fun h => h48 h.1))
    refine s_load (p.e : Int) hc2 ?_
    refine s_iteE (fun h1 => ?_) (fun h1 => ?_)
    · refine s_load (p.e : Int) hc2 ?_
      refine s_iteD (fun hlt => ?_) (fun hlt => yes (good fun h => hlt (by have := h.2.2.1; omega)))
      refine s_load (p.e : Int) hc2 (s_chk (by omega) ?_)
      refine s_iteD (fun hd1 => ?_) (fun hd1 => yes (good fun h => hd1 (isDig_iff.1 h.2.2.2).1))
      refine s_load (p.e : Int) hc2 (s_chk (by omega) ?_)
      refine s_iteD (fun hd2 => ?_) (fun hd2 => yes (good fun h => hd2 (isDig_iff.1 h.2.2.2).2))
      exact p_no hd4 rfl fun w6 k6 => ⟨rfl, no ⟨h48, .inl (by omega), by omega, isDig_yes ⟨hd1, hd2⟩⟩ w6 k6⟩
    · refine s_load (p.e : Int) hc2 ?_
      refine s_iteE (fun h2 => ?_) (fun h2 => yes (good fun h => by rcases h.2.1 with h | h <;> omega))
      refine s_chk (by omega) ?_
      refine s_iteE (fun h45 => ?_) (fun h45 => yes (good fun h => by rcases h.2.1 with h | h; omega; exact h45 h.2))
      refine s_load (p.e : Int) hc2 ?_
      refine s_iteD (fun hlt => ?_) (fun hlt => yes (good fun h => hlt (by have := h.2.2.1; omega)))
      refine s_load (p.e : Int) hc2 (s_chk (by omega) ?_)
      refine s_iteD (fun hd1 => ?_) (fun hd1 => yes (good fun h => hd1 (isDig_iff.1 h.2.2.2).1))
      refine s_load (p.e : Int) hc2 (s_chk (by omega) ?_)
      refine s_iteD (fun hd2 => ?_) (fun hd2 => yes (good fun h => hd2 (isDig_iff.1 h.2.2.2).2))
      exact p_no hd4 rfl fun w6 k6 => ⟨rfl, no ⟨h48, .inr ⟨by omega, h45⟩, by omega, isDig_yes ⟨hd1, hd2⟩⟩ w6 k6⟩
end Go.Proofs.Ytdjilnhalpmabaa.Sr
