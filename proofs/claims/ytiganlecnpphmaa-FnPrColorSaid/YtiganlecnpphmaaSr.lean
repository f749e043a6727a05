/- The reference's reader: what its small methods do. No statement of the set is proved here. -/
import Derived.Test.YtiganlecnpphmaaRk
import Derived.Test.YtiganlecnpphmaaPl
import Derived.Test.YtiganlecnpphmaaTr
namespace Go.Proofs.Ytiganlecnpphmaa.Sr
open Go Go.Proofs Go.Proofs.Ytiganlecnpphmaa.Rx Go.Proofs.Ytiganlecnpphmaa.Tr Go.Proofs.Ytiganlecnpphmaa.Pl

/-- A reader over 's' at place 'i', in block 'g'. -/
def RdAt (w : World) (g : Nat) (s : ByteArray) (i : Nat) : Prop := Blk w g [.string s, .int .i64 i] 48
theorem RdAt.to {w : World} {g : Nat} {s : ByteArray} {i : Nat} (h : RdAt w g s i) (j : Nat) : RdAt (w.setCell ⟨g, 1, none⟩ (.int .i64 j)) g s j := Blk.set h 1 _
theorem RdAt.toI {w : World} {g : Nat} {s : ByteArray} {i : Nat} (h : RdAt w g s i) {n : Int} {j : Nat} (hn : n = (j : Int)) : RdAt (w.setCell ⟨g, 1, none⟩ (.int .i64 n)) g s j := by subst hn; exact h.to j
theorem RdAt.drew {w : World} {g : Nat} {s : ByteArray} {i : Nat} (h : RdAt w g s i) : RdAt w.drew g s i := h
def takeB (s : ByteArray) (i : Nat) (c : Int) : Bool := decide (i < s.size) && bt s i == c
def takeI (s : ByteArray) (i : Nat) (c : Int) : Nat := if takeB s i c then i + 1 else i
theorem takeB_yes {s : ByteArray} {i : Nat} {c : Int} (h : i < s.size) (h' : bt s i = c) : takeB s i c = true := by simp [takeB, h, h']
theorem takeB_no {s : ByteArray} {i : Nat} {c : Int} (h' : bt s i ≠ c) : takeB s i c = false := by simp [takeB, h']
theorem takeB_end {s : ByteArray} {i : Nat} {c : Int} (h : s.size ≤ i) : takeB s i c = false := by simp [takeB]; omega
theorem takeB_bt {s : ByteArray} {i : Nat} {c : Int} (hc : c ≠ 0) : takeB s i c = true ↔ bt s i = c := by
  constructor
  · intro h; simp [takeB] at h; exact h.2
  · intro h; exact takeB_yes (lt_of_bt (by omega)) h
theorem takeB_btF {s : ByteArray} {i : Nat} {c : Int} (hc : c ≠ 0) : takeB s i c = false ↔ bt s i ≠ c := by
  rw [Bool.eq_false_iff, ne_eq, takeB_bt hc]

theorem take_any {w : World} {g : Nat} {s : ByteArray} {i : Nat} (c : Int) (hs : s.size < 4611686018427387904) (hR : RdAt w g s i) :
    Calls Try.prog 28 #[.pointer (some ⟨g, 0, none⟩), .int .u8 c] w fun e w' => e = .returned (.bool (takeB s i c)) ∧ RdAt w' g s (takeI s i c) ∧ Kp (On g) w w' := by
  have c0 := hR.cell 0
  have c1 := hR.cell 1
  have f1 := hR.free 1
  refine spec_reader_take.calls _ _ ?_
  simp [spec_reader_take.t, c0, c1, f1]
  refine ⟨fun h => ⟨h, fun hc => ?_, fun hc => ?_⟩, fun h => ?_⟩
  · rw [takeI, takeB_yes h hc, if_pos rfl]
    exact ⟨rfl, hR.drew.toI (by rw [wrap_in (by omega) (by omega)]; rfl), (Kp.refl _ _).drew.on _ _⟩
  · rw [takeI, takeB_no hc]
    exact ⟨rfl, hR.drew, (Kp.refl _ _).drew⟩
  · rw [takeI, takeB_end h]
    exact ⟨rfl, hR.drew, (Kp.refl _ _).drew⟩

theorem here_any {w : World} {g : Nat} {s : ByteArray} {i : Nat} (hR : RdAt w g s i) :
    Calls Try.prog 22 #[.pointer (some ⟨g, 0, none⟩)] w fun e w' => e = .returned (.int .u8 (bt s i)) ∧ RdAt w' g s i ∧ Kp (On g) w w' := by
  have c0 := hR.cell 0
  have c1 := hR.cell 1
  refine spec_reader_here.calls _ ?_
  simp [spec_reader_here.t, c0, c1]
  refine ⟨fun h => ⟨h, rfl, hR, (Kp.refl _ _).drew.drew⟩, fun h => ?_⟩
  rw [bt_end h]
  exact ⟨rfl, hR, (Kp.refl _ _).drew⟩

theorem digits_any {w : World} {g : Nat} {s : ByteArray} {i : Nat} (hs : s.size < 4611686018427387904) (hi : i ≤ s.size) (hR : RdAt w g s i) :
    Calls Try.prog 30 #[.pointer (some ⟨g, 0, none⟩)] w fun e w' => e = .returned (.bool (isDig (bt s i))) ∧ RdAt w' g s (digs s i) ∧ Kp (On g) w w' := by
  have c1 := hR.cell 1
  refine spec_reader_digits.calls _ ?_
  simp [spec_reader_digits.t, c1]
  refine s_call (here_any hR) ?_
  rintro e w1 ⟨rfl, hR1, k1⟩
  refine ⟨_, rfl, ?_⟩
  refine s_loop (fun n x w' => ∃ j : Nat, x = (bt s j, ()) ∧ j ≤ s.size ∧ n = s.size - j ∧ i ≤ j ∧ (j = i ∨ isDig (bt s i) = true) ∧ digs s j = digs s i ∧ RdAt w' g s j ∧ Kp (On g) w w') (s.size - i) (bt s i, ()) rfl
    ⟨i, rfl, hi, rfl, Nat.le_refl _, .inl rfl, rfl, hR1, k1⟩ ?_
  rintro n x w2 ⟨j, rfl, hj, rfl, hij, hor, hd, hR2, k2⟩
  have c1 := hR2.cell 1
  have f1 := hR2.free 1
  have fin : isDig (bt s j) = false → retVal [Value.bool (decide ((i : Int) < (j : Int)))] = Value.bool (isDig (bt s i)) ∧ RdAt w2 g s (digs s i) := by
    intro h
    rw [digs_no h] at hd
    refine ⟨?_, hd ▸ hR2⟩
    rcases hor with e | e
    · subst e; simp [retVal, h]
    · have : i < j := by rw [hd]; exact digs_gt e
      simp [retVal, e, this]
  simp [spec_reader_digits.t1, c1, f1]
  refine ⟨fun h1 => ⟨fun h2 => ?_, fun h2 => ?_⟩, fun h1 => ?_⟩
  · have hdj : isDig (bt s j) = true := isDig_yes ⟨h1, h2⟩
    have hjs : j < s.size := lt_of_bt (by omega)
    have hR3 := hR2.toI (n := IntKind.i64.wrap ((j : Int) + 1)) (j := j + 1) (by rw [wrap_in (by omega) (by omega)]; rfl)
    refine s_call (here_any hR3) ?_
    rintro e w3 ⟨rfl, hR4, k4⟩
    refine ⟨_, rfl, ?_⟩
    refine ⟨s.size - (j + 1), (bt s (j + 1 : Nat), ()), rfl, by omega, j + 1, rfl, by omega, rfl, by omega, .inr ?_, by rw [← digs_yes hdj, hd], hR4, ?_⟩
    · rcases hor with e | e
      · subst e; exact hdj
      · exact e
    · exact (k2.on _ _).trans k4
  · obtain ⟨a, b⟩ := fin (isDig_no (by omega))
    exact ⟨by simpa using a, b, k2⟩
  · obtain ⟨a, b⟩ := fin (isDig_no (by omega))
    exact ⟨by simpa using a, b, k2⟩

/-- Where the reader is when it has read a number: 'r': what 'numE' says. -/
def NumPost (g : Nat) (s : ByteArray) (r : Option Nat) (w : World) (e : Ending) (w' : World) : Prop :=
  ∃ j : Nat, e = .returned (.bool r.isSome) ∧ (∀ m, r = some m → j = m) ∧ j ≤ s.size ∧ RdAt w' g s j ∧ Kp (On g) w w'
theorem NumPost.no {g : Nat} {s : ByteArray} {r : Option Nat} {w w' : World} {j : Nat} (h : r = none) (hj : j ≤ s.size) (hR : RdAt w' g s j) (hk : Kp (On g) w w') : NumPost g s r w (.returned (.bool false)) w' := by
  subst h; exact ⟨j, rfl, fun _ h => (by cases h), hj, hR, hk⟩
theorem NumPost.yes {g : Nat} {s : ByteArray} {r : Option Nat} {w w' : World} {j : Nat} (h : r = some j) (hj : j ≤ s.size) (hR : RdAt w' g s j) (hk : Kp (On g) w w') : NumPost g s r w (.returned (.bool true)) w' := by
  subst h; exact ⟨j, rfl, fun _ h => (by cases h; rfl), hj, hR, hk⟩
theorem NumPost.dig {g : Nat} {s : ByteArray} {w w' : World} {j : Nat} (hj : j ≤ s.size) (hR : RdAt w' g s (digs s j)) (hk : Kp (On g) w w') : NumPost g s (expD s j) w (.returned (.bool (isDig (bt s j)))) w' := by
  cases h : isDig (bt s j) with
  | true => exact .yes (expD_yes h) (digs_le s j hj) hR hk
  | false => exact .no (expD_no h) (digs_le s j hj) hR hk
theorem takeI_yes {s : ByteArray} {i : Nat} {c : Int} (h : takeB s i c = true) : takeI s i c = i + 1 := by rw [takeI, if_pos h]
theorem takeI_no {s : ByteArray} {i : Nat} {c : Int} (h : takeB s i c = false) : takeI s i c = i := by rw [takeI, h]; rfl
theorem takeB_lt {s : ByteArray} {i : Nat} {c : Int} (h : takeB s i c = true) : i < s.size := by simp [takeB] at h; exact h.1
theorem takeI_le {s : ByteArray} {i : Nat} {c : Int} (h : i ≤ s.size) : takeI s i c ≤ s.size := by
  cases e : takeB s i c with
  | true => rw [takeI_yes e]; exact takeB_lt e
  | false => rw [takeI_no e]; exact h

theorem number_any {w : World} {g : Nat} {s : ByteArray} {i : Nat} (hs : s.size < 4611686018427387904) (hi : i ≤ s.size) (hR : RdAt w g s i) :
    Calls Try.prog 26 #[.pointer (some ⟨g, 0, none⟩)] w (NumPost g s (numE s i) w) := by
  refine spec_reader_number.calls _ ?_
  unfold spec_reader_number.t
  refine s_call (take_any 45 hs hR) ?_
  rintro e w1 ⟨rfl, hR1, k1⟩
  refine ⟨_, rfl, ?_⟩
  have h1 : numE s i = intE s (takeI s i 45) := by
    cases e : takeB s i 45 with
    | true => rw [takeI_yes e, numE_minus ((takeB_bt (by decide)).1 e)]
    | false => rw [takeI_no e, numE_plain ((takeB_btF (by decide)).1 e)]
  rw [h1]
  have hi1 : takeI s i 45 ≤ s.size := takeI_le hi
  generalize takeI s i 45 = j at *
  clear h1 hR hi i
  refine s_cut (fun x w' => ∃ q : Nat, q ≤ s.size ∧ RdAt w' g s q ∧ Kp (On g) w w' ∧ ((x = (true, ()) ∧ intE s j = none) ∨ (x = (false, ()) ∧ intE s j = fracE s q))) ?_ ?_
  · refine s_call (take_any 48 hs hR1) ?_
    rintro e w2 ⟨rfl, hR2, k2⟩
    refine ⟨_, rfl, ?_⟩
    cases e : takeB s j 48 with
    | true =>
      simp only [Bool.not_true, sat_iteF, sat_leaf, if_true]
      rw [takeI_yes e] at hR2
      exact ⟨(false, ()), rfl, j + 1, takeB_lt e, hR2, k1.trans k2, .inr ⟨rfl, intE_zero ((takeB_bt (by decide)).1 e)⟩⟩
    | false =>
      simp only [Bool.not_false, sat_iteT]
      rw [takeI_no e] at hR2
      refine s_call (digits_any hs hi1 hR2) ?_
      rintro e1 w3 ⟨rfl, hR3, k3⟩
      refine ⟨_, rfl, ?_⟩
      refine ⟨(!isDig (bt s j), ()), rfl, digs s j, digs_le s j hi1, hR3, (k1.trans k2).trans k3, ?_⟩
      cases hd : isDig (bt s j) with
      | true => exact .inr ⟨rfl, intE_dig ((takeB_btF (by decide)).1 e) hd⟩
      | false => exact .inl ⟨rfl, intE_bad hd⟩
  · rintro x w2 ⟨q, hq, hR2, k2, ⟨rfl, hE⟩ | ⟨rfl, hE⟩⟩
    · simp [spec_reader_number.t1, retVal]
      exact .no hE hq hR2 k2
    · rw [hE]
      simp only [spec_reader_number.t1, sat_iteF]
      clear hE hi1 hR1 k1
      refine s_cut (fun x w' => ∃ p : Nat, p ≤ s.size ∧ RdAt w' g s p ∧ Kp (On g) w w' ∧ ((x = (true, ()) ∧ fracE s q = none) ∨ (x = (false, ()) ∧ fracE s q = expE s p))) ?_ ?_
      · refine s_call (take_any 46 hs hR2) ?_
        rintro e w3 ⟨rfl, hR3, k3⟩
        refine ⟨_, rfl, ?_⟩
        cases e : takeB s q 46 with
        | false =>
          simp only [sat_iteF, sat_leaf, if_true]
          rw [takeI_no e] at hR3
          exact ⟨(false, ()), rfl, q, hq, hR3, k2.trans k3, .inr ⟨rfl, fracE_no ((takeB_btF (by decide)).1 e)⟩⟩
        | true =>
          simp only [sat_iteT]
          rw [takeI_yes e] at hR3
          refine s_call (digits_any hs (takeB_lt e) hR3) ?_
          rintro e1 w4 ⟨rfl, hR4, k4⟩
          refine ⟨_, rfl, ?_⟩
          refine ⟨(!isDig (bt s (q + 1 : Nat)), ()), rfl, digs s (q + 1), digs_le s _ (takeB_lt e), hR4, (k2.trans k3).trans k4, ?_⟩
          cases hd : isDig (bt s (q + 1 : Nat)) with
          | true => exact .inr ⟨rfl, fracE_yes ((takeB_bt (by decide)).1 e) hd⟩
          | false => exact .inl ⟨rfl, fracE_bad ((takeB_bt (by decide)).1 e) hd⟩
      · rintro x w3 ⟨p, hp, hR3, k3, ⟨rfl, hE⟩ | ⟨rfl, hE⟩⟩
        · simp [spec_reader_number.t2, retVal]
          exact .no hE hp hR3 k3
        · rw [hE]
          clear hE hR2 k2 hq
          simp only [spec_reader_number.t2, sat_iteF]
          -- the sign and the digits
          have tail : ∀ {w4 : World}, p < s.size → (bt s p = 101 ∨ bt s p = 69) → RdAt w4 g s (p + 1) → Kp (On g) w w4 →
              Calls Try.prog 28 #[.pointer (some ⟨g, 0, none⟩), .int .u8 43] w4 fun e w5 => ∃ x, e = .returned (.bool x) ∧
                sat Try.prog (.ite (!x) (
                  .call 28 #[(Value.pointer (some ⟨g, 0, none⟩)), (Value.int IntKind.u8 (45 : Int))] .bool fun (b9 : Bool) =>
                  .call 30 #[(Value.pointer (some ⟨g, 0, none⟩))] .bool fun (b10 : Bool) =>
                  .leaf 0 [(Value.bool b10)]) (
                  .call 30 #[(Value.pointer (some ⟨g, 0, none⟩))] .bool fun (b11 : Bool) =>
                  .leaf 0 [(Value.bool b11)])) (fun l vs w' => l = 0 ∧ NumPost g s (expE s p) w (.returned (retVal vs)) w') w5 := by
            intro w4 hlt he hR4 k4
            refine (take_any 43 hs hR4).mono ?_
            rintro e w5 ⟨rfl, hR5, k5⟩
            refine ⟨_, rfl, ?_⟩
            cases e5 : takeB s (p + 1) 43 with
            | true =>
              simp
              rw [takeI_yes e5] at hR5
              refine s_call (digits_any hs (takeB_lt e5) hR5) ?_
              rintro e w6 ⟨rfl, hR6, k6⟩
              refine ⟨_, rfl, ?_⟩
              rw [expE_s he (.inl ((takeB_bt (by decide)).1 e5))]
              exact ⟨rfl, .dig (takeB_lt e5) hR6 ((k4.trans k5).trans k6)⟩
            | false =>
              simp
              rw [takeI_no e5] at hR5
              refine s_call (take_any 45 hs hR5) ?_
              rintro e w6 ⟨rfl, hR6, k6⟩
              refine ⟨_, rfl, ?_⟩
              refine s_call (digits_any hs (takeI_le hlt) hR6) ?_
              rintro e w7 ⟨rfl, hR7, k7⟩
              refine ⟨_, rfl, ?_⟩
              have hE : expE s p = expD s (takeI s (p + 1) 45) := by
                cases e6 : takeB s (p + 1) 45 with
                | true => rw [takeI_yes e6, expE_s he (.inr ((takeB_bt (by decide)).1 e6))]
                | false =>
                  have a := (takeB_btF (by decide)).1 e5
                  have b := (takeB_btF (by decide)).1 e6
                  rw [takeI_no e6, expE_b he (by simp only [not_or]; exact ⟨a, b⟩)]
              rw [hE]
              exact ⟨rfl, .dig (takeI_le hlt) hR7 (((k4.trans k5).trans k6).trans k7)⟩
          refine s_call (take_any 101 hs hR3) ?_
          rintro e w4 ⟨rfl, hR4, k4⟩
          refine ⟨_, rfl, ?_⟩
          cases e4 : takeB s p 101 with
          | true =>
            simp only [sat_iteT]
            rw [takeI_yes e4] at hR4
            exact s_call (tail (takeB_lt e4) (.inl ((takeB_bt (by decide)).1 e4)) hR4 (k3.trans k4)) fun e w h => h
          | false =>
            simp only [sat_iteF]
            rw [takeI_no e4] at hR4
            refine s_call (take_any 69 hs hR4) ?_
            rintro e w5 ⟨rfl, hR5, k5⟩
            refine ⟨_, rfl, ?_⟩
            cases e5 : takeB s p 69 with
            | true =>
              simp only [sat_iteT]
              rw [takeI_yes e5] at hR5
              exact s_call (tail (takeB_lt e5) (.inr ((takeB_bt (by decide)).1 e5)) hR5 ((k3.trans k4).trans k5)) fun e w h => h
            | false =>
              simp only [sat_iteF, sat_leaf]
              rw [takeI_no e5] at hR5
              have a := (takeB_btF (by decide)).1 e4
              have b := (takeB_btF (by decide)).1 e5
              exact ⟨trivial, .yes (expE_no (by simp only [not_or]; exact ⟨a, b⟩)) hp hR5 ((k3.trans k4).trans k5)⟩
end Go.Proofs.Ytiganlecnpphmaa.Sr
