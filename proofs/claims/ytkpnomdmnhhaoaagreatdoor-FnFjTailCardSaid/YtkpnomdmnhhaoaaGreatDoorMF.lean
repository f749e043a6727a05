/- The reference's reader of JSON texts (the texts Sr Ss Vl Vw Vm Vv Pq of this repo put together). No statement of the set is proved here. -/
import Derived.Test.YtkpnomdmnhhaoaaGreatDoorRk
import Derived.Test.YtkpnomdmnhhaoaaGreatDoorMA
import Derived.Test.YtkpnomdmnhhaoaaGreatDoorTr
import Derived.Test.YtkpnomdmnhhaoaaGreatDoorMD
import Derived.Test.YtkpnomdmnhhaoaaGreatDoorTv
namespace Go.Proofs.YtkpnomdmnhhaoaaGreatDoor.Sr
open Go Go.Proofs Go.Proofs.YtkpnomdmnhhaoaaGreatDoor.Rx Go.Proofs.YtkpnomdmnhhaoaaGreatDoor.Tr Go.Proofs.YtkpnomdmnhhaoaaGreatDoor.Pl

/-- A reader over 's' at place 'i', in block 'g'. -/
def RdAt (w : World) (g : Nat) (s : ByteArray) (i : Nat) : Prop := Blk w g [.string s, .int .i64 i] 80
theorem RdAt.to {w : World} {g : Nat} {s : ByteArray} {i : Nat} (h : RdAt w g s i) (j : Nat) : RdAt (w.setCell ⟨g, 1, none⟩ (.int .i64 j)) g s j := Blk.set h 1 _
theorem RdAt.toI {w : World} {g : Nat} {s : ByteArray} {i : Nat} (h : RdAt w g s i) {n : Int} {j : Nat} (hn : n = (j : Int)) : RdAt (w.setCell ⟨g, 1, none⟩ (.int .i64 n)) g s j := by subst hn; exact h.to j
theorem RdAt.drew {w : World} {g : Nat} {s : ByteArray} {i : Nat} (h : RdAt w g s i) : RdAt w.drew g s i := h
def takeB (s : ByteArray) (i : Nat) (c : Int) : Bool := decide (i < s.size) && bt s i == c
def takeI (s : ByteArray) (i : Nat) (c : Int) : Nat := if takeB s i c then i + 1 else i
theorem takeB_yes {s : ByteArray} {i : Nat} {c : Int} (h : i < s.size) (h' : bt s i = c) : takeB s i c = true := by simp [takeB, h, h']
theorem takeB_no {s : ByteArray} {i : Nat} {c : Int} (h' : bt s i ≠ c) : takeB s i c = false := by simp [takeB, h']
theorem takeB_end {s : ByteArray} {i : Nat} {c : Int} (h : s.size ≤ i) : takeB s i c = false := by simp [takeB]; omega
theorem takeB_bt {s : ByteArray} {i : Nat} {c : Int} (hc : c ≠ 0) : takeB s i c = true ↔ bt s i = c := by
  constructor
  · intro h; simp [takeB] at h; exact h.2
  · intro h; exact takeB_yes (lt_of_bt (by omega)) h
theorem takeB_btF {s : ByteArray} {i : Nat} {c : Int} (hc : c ≠ 0) : takeB s i c = false ↔ bt s i ≠ c := by
  rw [Bool.eq_false_iff, ne_eq, takeB_bt hc]

theorem take_any {w : World} {g : Nat} {s : ByteArray} {i : Nat} (c : Int) (hs : s.size < 4611686018427387904) (hR : RdAt w g s i) :
    Calls Tryz.prog 85 #[.pointer (some ⟨g, 0, none⟩), .int .u8 c] w fun e w' => e = .returned (.bool (takeB s i c)) ∧ RdAt w' g s (takeI s i c) ∧ Kp (On g) w w' := by
  have c0 := hR.cell 0
  have c1 := hR.cell 1
  have f1 := hR.free 1
  refine spec_reader_take.calls _ _ ?_
  simp [spec_reader_take.t, c0, c1, f1]
  refine ⟨fun h => ⟨h, fun hc => ?_, fun hc => ?_⟩, fun h => ?_⟩
  · rw [takeI, takeB_yes h hc, if_pos rfl]
    exact ⟨rfl, hR.drew.toI (by rw [wrap_in (by omega) (by omega)]; rfl), (Kp.refl _ _).drew.on _ _⟩
  · rw [takeI, takeB_no hc]
    exact ⟨rfl, hR.drew, (Kp.refl _ _).drew⟩
  · rw [takeI, takeB_end h]
    exact ⟨rfl, hR.drew, (Kp.refl _ _).drew⟩

theorem here_any {w : World} {g : Nat} {s : ByteArray} {i : Nat} (hR : RdAt w g s i) :
    Calls Tryz.prog 64 #[.pointer (some ⟨g, 0, none⟩)] w fun e w' => e = .returned (.int .u8 (bt s i)) ∧ RdAt w' g s i ∧ Kp (On g) w w' := by
  have c0 := hR.cell 0
  have c1 := hR.cell 1
  refine spec_reader_here.calls _ ?_
  simp [spec_reader_here.t, c0, c1]
  refine ⟨fun h => ⟨h, rfl, hR, (Kp.refl _ _).drew.drew⟩, fun h => ?_⟩
  rw [bt_end h]
  exact ⟨rfl, hR, (Kp.refl _ _).drew⟩

theorem digits_any {w : World} {g : Nat} {s : ByteArray} {i : Nat} (hs : s.size < 4611686018427387904) (hi : i ≤ s.size) (hR : RdAt w g s i) :
    Calls Tryz.prog 87 #[.pointer (some ⟨g, 0, none⟩)] w fun e w' => e = .returned (.bool (isDig (bt s i))) ∧ RdAt w' g s (digs s i) ∧ Kp (On g) w w' := by
  have c1 := hR.cell 1
  refine spec_reader_digits.calls _ ?_
  simp [spec_reader_digits.t, c1]
  refine s_call (here_any hR) ?_
  rintro e w1 ⟨rfl, hR1, k1⟩
  refine ⟨_, rfl, ?_⟩
  refine s_loop (fun n x w' => ∃ j : Nat, x = (bt s j, ()) ∧ j ≤ s.size ∧ n = s.size - j ∧ i ≤ j ∧ (j = i ∨ isDig (bt s i) = true) ∧ digs s j = digs s i ∧ RdAt w' g s j ∧ Kp (On g) w w') (s.size - i) (bt s i, ()) rfl
    ⟨i, rfl, hi, rfl, Nat.le_refl _, .inl rfl, rfl, hR1, k1⟩ ?_
  rintro n x w2 ⟨j, rfl, hj, rfl, hij, hor, hd, hR2, k2⟩
  have c1 := hR2.cell 1
  have f1 := hR2.free 1
  have fin : isDig (bt s j) = false → retVal [Value.bool (decide ((i : Int) < (j : Int)))] = Value.bool (isDig (bt s i)) ∧ RdAt w2 g s (digs s i) := by
    intro h
    rw [digs_no h] at hd
    refine ⟨?_, hd ▸ hR2⟩
    rcases hor with e | e
    · subst e; simp [retVal, h]
    · have : i < j := by rw [hd]; exact digs_gt e
      simp [retVal, e, this]
  simp [spec_reader_digits.t1, c1, f1]
  refine ⟨fun h1 => ⟨fun h2 => ?_, fun h2 => ?_⟩, fun h1 => ?_⟩
  · have hdj : isDig (bt s j) = true := isDig_yes ⟨h1, h2⟩
    have hjs : j < s.size := lt_of_bt (by omega)
    have hR3 := hR2.toI (n := IntKind.i64.wrap ((j : Int) + 1)) (j := j + 1) (by rw [wrap_in (by omega) (by omega)]; rfl)
    refine s_call (here_any hR3) ?_
    rintro e w3 ⟨rfl, hR4, k4⟩
    refine ⟨_, rfl, ?_⟩
    refine ⟨s.size - (j + 1), (bt s (j + 1 : Nat), ()), rfl, by omega, j + 1, rfl, by omega, rfl, by omega, .inr ?_, by rw [← digs_yes hdj, hd], hR4, ?_⟩
    · rcases hor with e | e
      · subst e; exact hdj
      · exact e
    · exact (k2.on _ _).trans k4
  · obtain ⟨a, b⟩ := fin (isDig_no (by omega))
    exact ⟨by simpa using a, b, k2⟩
  · obtain ⟨a, b⟩ := fin (isDig_no (by omega))
    exact ⟨by simpa using a, b, k2⟩

/-- Where the reader is when it has read a number: 'r': what 'numE' says. -/
def NumPost (g : Nat) (s : ByteArray) (r : Option Nat) (w : World) (e : Ending) (w' : World) : Prop :=
  ∃ j : Nat, e = .returned (.bool r.isSome) ∧ (∀ m, r = some m → j = m) ∧ j ≤ s.size ∧ RdAt w' g s j ∧ Kp (On g) w w'
theorem NumPost.no {g : Nat} {s : ByteArray} {r : Option Nat} {w w' : World} {j : Nat} (h : r = none) (hj : j ≤ s.size) (hR : RdAt w' g s j) (hk : Kp (On g) w w') : NumPost g s r w (.returned (.bool false)) w' := by
  subst h; exact ⟨j, rfl, fun _ h => (by cases h), hj, hR, hk⟩
theorem NumPost.yes {g : Nat} {s : ByteArray} {r : Option Nat} {w w' : World} {j : Nat} (h : r = some j) (hj : j ≤ s.size) (hR : RdAt w' g s j) (hk : Kp (On g) w w') : NumPost g s r w (.returned (.bool true)) w' := by
  subst h; exact ⟨j, rfl, fun _ h => (by cases h; rfl), hj, hR, hk⟩
theorem NumPost.dig {g : Nat} {s : ByteArray} {w w' : World} {j : Nat} (hj : j ≤ s.size) (hR : RdAt w' g s (digs s j)) (hk : Kp (On g) w w') : NumPost g s (expD s j) w (.returned (.bool (isDig (bt s j)))) w' := by
  cases h : isDig (bt s j) with
  | true => exact .yes (expD_yes h) (digs_le s j hj) hR hk
  | false => exact .no (expD_no h) (digs_le s j hj) hR hk
theorem takeI_yes {s : ByteArray} {i : Nat} {c : Int} (h : takeB s i c = true) : takeI s i c = i + 1 := by rw [takeI, if_pos h]
theorem takeI_no {s : ByteArray} {i : Nat} {c : Int} (h : takeB s i c = false) : takeI s i c = i := by rw [takeI, h]; rfl
theorem takeB_lt {s : ByteArray} {i : Nat} {c : Int} (h : takeB s i c = true) : i < s.size := by simp [takeB] at h; exact h.1
theorem takeI_le {s : ByteArray} {i : Nat} {c : Int} (h : i ≤ s.size) : takeI s i c ≤ s.size := by
  cases e : takeB s i c with
  | true => rw [takeI_yes e]; exact takeB_lt e
  | false => rw [takeI_no e]; exact h

theorem number_any {w : World} {g : Nat} {s : ByteArray} {i : Nat} (hs : s.size < 4611686018427387904) (hi : i ≤ s.size) (hR : RdAt w g s i) :
    Calls Tryz.prog 68 #[.pointer (some ⟨g, 0, none⟩)] w (NumPost g s (numE s i) w) := by
  refine spec_reader_number.calls _ ?_
  unfold spec_reader_number.t
  refine s_call (take_any 45 hs hR) ?_
  rintro e w1 ⟨rfl, hR1, k1⟩
  refine ⟨_, rfl, ?_⟩
  have h1 : numE s i = intE s (takeI s i 45) := by
    cases e : takeB s i 45 with
    | true => rw [takeI_yes e, numE_minus ((takeB_bt (by decide)).1 e)]
    | false => rw [takeI_no e, numE_plain ((takeB_btF (by decide)).1 e)]
  rw [h1]
  have hi1 : takeI s i 45 ≤ s.size := takeI_le hi
  generalize takeI s i 45 = j at *
  clear h1 hR hi i
  refine s_cut (fun x w' => ∃ q : Nat, q ≤ s.size ∧ RdAt w' g s q ∧ Kp (On g) w w' ∧ ((x = (true, ()) ∧ intE s j = none) ∨ (x = (false, ()) ∧ intE s j = fracE s q))) ?_ ?_
  · refine s_call (take_any 48 hs hR1) ?_
    rintro e w2 ⟨rfl, hR2, k2⟩
    refine ⟨_, rfl, ?_⟩
    cases e : takeB s j 48 with
    | true =>
      simp only [Bool.not_true, sat_iteF, sat_leaf, if_true]
      rw [takeI_yes e] at hR2
      exact ⟨(false, ()), rfl, j + 1, takeB_lt e, hR2, k1.trans k2, .inr ⟨rfl, intE_zero ((takeB_bt (by decide)).1 e)⟩⟩
    | false =>
      simp only [Bool.not_false, sat_iteT]
      rw [takeI_no e] at hR2
      refine s_call (digits_any hs hi1 hR2) ?_
      rintro e1 w3 ⟨rfl, hR3, k3⟩
      refine ⟨_, rfl, ?_⟩
      refine ⟨(!isDig (bt s j), ()), rfl, digs s j, digs_le s j hi1, hR3, (k1.trans k2).trans k3, ?_⟩
      cases hd : isDig (bt s j) with
      | true => exact .inr ⟨rfl, intE_dig ((takeB_btF (by decide)).1 e) hd⟩
      | false => exact .inl ⟨rfl, intE_bad hd⟩
  · rintro x w2 ⟨q, hq, hR2, k2, ⟨rfl, hE⟩ | ⟨rfl, hE⟩⟩
    · simp [spec_reader_number.t1, retVal]
      exact .no hE hq hR2 k2
    · rw [hE]
      simp only [spec_reader_number.t1, sat_iteF]
      clear hE hi1 hR1 k1
      refine s_cut (fun x w' => ∃ p : Nat, p ≤ s.size ∧ RdAt w' g s p ∧ Kp (On g) w w' ∧ ((x = (true, ()) ∧ fracE s q = none) ∨ (x = (false, ()) ∧ fracE s q = expE s p))) ?_ ?_
      · refine s_call (take_any 46 hs hR2) ?_
        rintro e w3 ⟨rfl, hR3, k3⟩
        refine ⟨_, rfl, ?_⟩
        cases e : takeB s q 46 with
        | false =>
          simp only [sat_iteF, sat_leaf, if_true]
          rw [takeI_no e] at hR3
          exact ⟨(false, ()), rfl, q, hq, hR3, k2.trans k3, .inr ⟨rfl, fracE_no ((takeB_btF (by decide)).1 e)⟩⟩
        | true =>
          simp only [sat_iteT]
          rw [takeI_yes e] at hR3
          refine s_call (digits_any hs (takeB_lt e) hR3) ?_
          rintro e1 w4 ⟨rfl, hR4, k4⟩
          refine ⟨_, rfl, ?_⟩
          refine ⟨(!isDig (bt s (q + 1 : Nat)), ()), rfl, digs s (q + 1), digs_le s _ (takeB_lt e), hR4, (k2.trans k3).trans k4, ?_⟩
          cases hd : isDig (bt s (q + 1 : Nat)) with
          | true => exact .inr ⟨rfl, fracE_yes ((takeB_bt (by decide)).1 e) hd⟩
          | false => exact .inl ⟨rfl, fracE_bad ((takeB_bt (by decide)).1 e) hd⟩
      · rintro x w3 ⟨p, hp, hR3, k3, ⟨rfl, hE⟩ | ⟨rfl, hE⟩⟩
        · simp [spec_reader_number.t2, retVal]
          exact .no hE hp hR3 k3
        · rw [hE]
          clear hE hR2 k2 hq
          simp only [spec_reader_number.t2, sat_iteF]
          -- the sign and the digits
          have tail : ∀ {w4 : World}, p < s.size → (bt s p = 101 ∨ bt s p = 69) → RdAt w4 g s (p + 1) → Kp (On g) w w4 →
              Calls Tryz.prog 85 #[.pointer (some ⟨g, 0, none⟩), .int .u8 43] w4 fun e w5 => ∃ x, e = .returned (.bool x) ∧
                sat Tryz.prog (.ite (!x) (
                  .call 85 #[(Value.pointer (some ⟨g, 0, none⟩)), (Value.int IntKind.u8 (45 : Int))] .bool fun (b9 : Bool) =>
                  .call 87 #[(Value.pointer (some ⟨g, 0, none⟩))] .bool fun (b10 : Bool) =>
                  .leaf 0 [(Value.bool b10)]) (
                  .call 87 #[(Value.pointer (some ⟨g, 0, none⟩))] .bool fun (b11 : Bool) =>
                  .leaf 0 [(Value.bool b11)])) (fun l vs w' => l = 0 ∧ NumPost g s (expE s p) w (.returned (retVal vs)) w') w5 := by
            intro w4 hlt he hR4 k4
            refine (take_any 43 hs hR4).mono ?_
            rintro e w5 ⟨rfl, hR5, k5⟩
            refine ⟨_, rfl, ?_⟩
            cases e5 : takeB s (p + 1) 43 with
            | true =>
              simp
              rw [takeI_yes e5] at hR5
              refine s_call (digits_any hs (takeB_lt e5) hR5) ?_
              rintro e w6 ⟨rfl, hR6, k6⟩
              refine ⟨_, rfl, ?_⟩
              rw [expE_s he (.inl ((takeB_bt (by decide)).1 e5))]
              exact ⟨rfl, .dig (takeB_lt e5) hR6 ((k4.trans k5).trans k6)⟩
            | false =>
              simp
              rw [takeI_no e5] at hR5
              refine s_call (take_any 45 hs hR5) ?_
              rintro e w6 ⟨rfl, hR6, k6⟩
              refine ⟨_, rfl, ?_⟩
              refine s_call (digits_any hs (takeI_le hlt) hR6) ?_
              rintro e w7 ⟨rfl, hR7, k7⟩
              refine ⟨_, rfl, ?_⟩
              have hE : expE s p = expD s (takeI s (p + 1) 45) := by
                cases e6 : takeB s (p + 1) 45 with
                | true => rw [takeI_yes e6, expE_s he (.inr ((takeB_bt (by decide)).1 e6))]
                | false =>
                  have a := (takeB_btF (by decide)).1 e5
                  have b := (takeB_btF (by decide)).1 e6
                  rw [takeI_no e6, expE_b he (by simp only [not_or]; exact ⟨a, b⟩)]
              rw [hE]
              exact ⟨rfl, .dig (takeI_le hlt) hR7 (((k4.trans k5).trans k6).trans k7)⟩
          refine s_call (take_any 101 hs hR3) ?_
          rintro e w4 ⟨rfl, hR4, k4⟩
          refine ⟨_, rfl, ?_⟩
          cases e4 : takeB s p 101 with
          | true =>
            simp only [sat_iteT]
            rw [takeI_yes e4] at hR4
            exact s_call (tail (takeB_lt e4) (.inl ((takeB_bt (by decide)).1 e4)) hR4 (k3.trans k4)) fun e w h => h
          | false =>
            simp only [sat_iteF]
            rw [takeI_no e4] at hR4
            refine s_call (take_any 69 hs hR4) ?_
            rintro e w5 ⟨rfl, hR5, k5⟩
            refine ⟨_, rfl, ?_⟩
            cases e5 : takeB s p 69 with
            | true =>
              simp only [sat_iteT]
              rw [takeI_yes e5] at hR5
              exact s_call (tail (takeB_lt e5) (.inr ((takeB_bt (by decide)).1 e5)) hR5 ((k3.trans k4).trans k5)) fun e w h => h
            | false =>
              simp only [sat_iteF, sat_leaf]
              rw [takeI_no e5] at hR5
              have a := (takeB_btF (by decide)).1 e4
              have b := (takeB_btF (by decide)).1 e5
              exact ⟨trivial, .yes (expE_no (by simp only [not_or]; exact ⟨a, b⟩)) hp hR5 ((k3.trans k4).trans k5)⟩
end Go.Proofs.YtkpnomdmnhhaoaaGreatDoor.Sr
namespace Go.Proofs.YtkpnomdmnhhaoaaGreatDoor.Sr
open Go Go.Proofs Go.Proofs.YtkpnomdmnhhaoaaGreatDoor.Rx Go.Proofs.YtkpnomdmnhhaoaaGreatDoor.Tr Go.Proofs.YtkpnomdmnhhaoaaGreatDoor.Pl

theorem Blank_any (c : Int) (w : World) : Calls Tryz.prog 63 #[.int .u8 c] w fun e w' => e = .returned (.bool (isB c)) ∧ w' = w := by
  refine spec_Blank.calls _ ?_
  unfold spec_Blank.t
  refine s_iteE (fun h => s_leaf ⟨rfl, by subst h; rfl, rfl⟩) (fun h1 => ?_)
  refine s_iteE (fun h => s_leaf ⟨rfl, by subst h; rfl, rfl⟩) (fun h2 => ?_)
  refine s_iteE (fun h => s_leaf ⟨rfl, by subst h; rfl, rfl⟩) (fun h3 => ?_)
  refine s_leaf ⟨rfl, ?_, rfl⟩
  simp [retVal, isB, h1, h2, h3]
/-- What a hexadecimal digit stands for. -/
def hexV (c : Int) : Int := if 48 ≤ c ∧ c ≤ 57 then c - 48 else if 97 ≤ c ∧ c ≤ 102 then c - 87 else if 65 ≤ c ∧ c ≤ 70 then c - 55 else 0
theorem hexDigit_any (c : Int) (w : World) : Calls Tryz.prog 40 #[.int .u8 c] w fun e w' => e = .returned (.tuple #[.int .i64 (hexV c), .bool (isH c)]) ∧ w' = w := by
  refine spec_hexDigit.calls _ ?_
  unfold spec_hexDigit.t
  refine s_cut (fun x w' => x = (decide (48 ≤ c ∧ c ≤ 57), ()) ∧ w = w') ?_ ?_
  · refine s_iteD (fun h => s_leaf ?_) (fun h => s_leaf ?_)
    · rw [if_pos rfl]; exact ⟨(decide (c ≤ 57), ()), rfl, by simp [h]; rfl, rfl⟩
    · rw [if_pos rfl]; exact ⟨(false, ()), rfl, by simp [h]; rfl, rfl⟩
  rintro x w1 ⟨rfl, rfl⟩
  simp only [spec_hexDigit.t1]
  refine s_iteD (fun h1 => s_leaf ⟨rfl, ?_, rfl⟩) (fun h1 => ?_)
  · rw [wrapB_in (by omega) (by omega), wrap_in (by omega) (by omega)]
    have : isH c = true := isH_iff.2 (.inl h1)
    simp [retVal, hexV, h1, this]
  refine s_cut (fun x w' => x = (decide (97 ≤ c ∧ c ≤ 102), ()) ∧ w = w') ?_ ?_
  · refine s_iteD (fun h => s_leaf ?_) (fun h => s_leaf ?_)
    · rw [if_pos rfl]; exact ⟨(decide (c ≤ 102), ()), rfl, by simp [h]; rfl, rfl⟩
    · rw [if_pos rfl]; exact ⟨(false, ()), rfl, by simp [h]; rfl, rfl⟩
  rintro x w1 ⟨rfl, rfl⟩
  simp only [spec_hexDigit.t2]
  refine s_iteD (fun h2 => s_leaf ⟨rfl, ?_, rfl⟩) (fun h2 => ?_)
  · rw [wrapB_in (by omega) (by omega), wrap_in (n := c - 97) (by omega) (by omega), wrap_in (by omega) (by omega)]
    have : isH c = true := isH_iff.2 (.inr (.inl h2))
    have e : c - 97 + 10 = hexV c := by unfold hexV; rw [if_neg h1, if_pos h2]; omega
    rw [e, this]; rfl
  have no : ¬ (65 ≤ c ∧ c ≤ 70) → hexV c = 0 ∧ isH c = false := fun h3 => by
    constructor
    · unfold hexV; rw [if_neg h1, if_neg h2, if_neg h3]
    · rw [Bool.eq_false_iff]; intro e; rcases isH_iff.1 e with h | h | h
      · exact h1 h
      · exact h2 h
      · exact h3 h
  refine s_iteD (fun h3 => ?_) (fun h3 => s_leaf ⟨rfl, ?_, rfl⟩)
  · refine s_iteD (fun h4 => s_leaf ⟨rfl, ?_, rfl⟩) (fun h4 => s_leaf ⟨rfl, ?_, rfl⟩)
    · rw [wrapB_in (by omega) (by omega), wrap_in (n := c - 65) (by omega) (by omega), wrap_in (by omega) (by omega)]
      have : isH c = true := isH_iff.2 (.inr (.inr ⟨h3, h4⟩))
      have e : c - 65 + 10 = hexV c := by unfold hexV; rw [if_neg h1, if_neg h2, if_pos ⟨h3, h4⟩]; omega
      rw [e, this]; rfl
    · obtain ⟨a, b⟩ := no (fun h => h4 h.2)
      rw [a, b]; rfl
  · obtain ⟨a, b⟩ := no (fun h => h3 h.1)
    rw [a, b]; rfl

theorem RdAt.kp {w w' : World} {g : Nat} {s : ByteArray} {i : Nat} {S : Nat → Prop} (h : RdAt w g s i) (k : Kp S w w') (hn : ¬ S g) : RdAt w' g s i := k.blk h hn
theorem blanks_any {w : World} {g : Nat} {s : ByteArray} {i : Nat} (hs : s.size < 4611686018427387904) (hi : i ≤ s.size) (hR : RdAt w g s i) :
    Calls Tryz.prog 41 #[.pointer (some ⟨g, 0, none⟩)] w fun e w' => e = .returned (.tuple #[]) ∧ RdAt w' g s (bl s i) ∧ Kp (On g) w w' := by
  refine spec_reader_blanks.calls _ ?_
  unfold spec_reader_blanks.t
  refine s_loop (fun n _ w' => ∃ j : Nat, j ≤ s.size ∧ n = s.size - j ∧ bl s j = bl s i ∧ RdAt w' g s j ∧ Kp (On g) w w') (s.size - i) () rfl ⟨i, hi, rfl, rfl, hR, Kp.refl _ _⟩ ?_
  rintro n x w1 ⟨j, hj, rfl, hb, hR1, k1⟩
  have hRd := hR1.drew
  have c0 := hRd.cell 0
  have c1 := hRd.cell 1
  have kd := k1.drew
  unfold spec_reader_blanks.t1
  refine s_drew (s_ptr ?_)
  simp only [addr_add, Nat.zero_add]
  refine s_load (j : Int) c1 (s_ptr (s_load s c0 ?_))
  refine s_iteD (fun h => ?_) (fun h => ?_)
  · refine s_ptr (s_load s c0 (s_ptr (s_load (j : Int) c1 (s_chk (by omega) ?_))))
    refine s_call (Blank_any (bt s (j : Int)) _) ?_
    rintro e w2 ⟨rfl, rfl⟩
    refine ⟨isB (bt s (j : Int)), rfl, ?_⟩
    have f1 := hRd.free 1
    cases hB : isB (bt s (j : Int)) with
    | false =>
      refine sat_iteF.2 (s_leaf ?_)
      rw [if_neg (by decide)]
      rw [bl_no hB] at hb
      exact ⟨rfl, rfl, hb ▸ hRd, kd⟩
    | true =>
      refine sat_iteT.2 (s_ptr ?_)
      simp only [addr_add, Nat.zero_add]
      refine s_load (j : Int) c1 (s_ptr (s_store c1 f1 (s_leaf ?_)))
      rw [if_pos rfl, wrap_in (by omega) (by omega)]
      exact ⟨s.size - (j + 1), (), rfl, by omega, j + 1, by omega, rfl, by rw [← bl_yes hB]; exact hb, hRd.toI rfl, kd.on _ _⟩
  · refine s_leaf ?_
    rw [if_neg (by decide)]
    rw [bl_end (by omega)] at hb
    exact ⟨rfl, rfl, hb ▸ hRd, kd⟩

theorem word_any {w : World} {g : Nat} {s : ByteArray} {i : Nat} (v : ByteArray) (hs : s.size < 4611686018427387904) (hv : v.size < 4611686018427387904) (hi : i ≤ s.size) (hR : RdAt w g s i) :
    Calls Tryz.prog 69 #[.pointer (some ⟨g, 0, none⟩), .string v] w fun e w' => e = .returned (.bool (wordB s i v)) ∧ RdAt w' g s (if wordB s i v then i + v.size else i) ∧ Kp (On g) w w' := by
  refine spec_reader_word.calls _ _ ?_
  unfold spec_reader_word.t
  refine s_cut (fun x w' => x = (!wordB s i v, ()) ∧ RdAt w' g s i ∧ Kp (On g) w w') ?_ ?_
  · have hRd := hR.drew
    have c0 := hRd.cell 0
    have c1 := hRd.cell 1
    have kd := (Kp.refl (On g) w).drew
    refine s_drew (s_ptr ?_)
    simp only [addr_add, Nat.zero_add]
    refine s_load s c0 (s_ptr (s_load (i : Int) c1 ?_))
    rw [wrap_in (by omega) (by omega)]
    refine s_iteD (fun h => s_leaf ?_) (fun h => ?_)
    · rw [if_pos rfl]
      have : wordB s i v = false := by simp [wordB]; omega
      exact ⟨(true, ()), rfl, by rw [this]; rfl, hRd, kd⟩
    · refine s_ptr (s_load s c0 (s_ptr (s_load (i : Int) c1 (s_ptr (s_load (i : Int) c1 ?_)))))
      rw [wrap_in (by omega) (by omega)]
      refine s_chk (by omega) (s_leaf ?_)
      rw [if_pos rfl]
      refine ⟨(_, ()), rfl, ?_, hRd, kd⟩
      have e : Int.toNat ((i : Int) + (v.size : Int)) = i + v.size := by omega
      rw [e, Int.toNat_natCast]
      unfold wordB
      rw [decide_eq_true (by omega), Bool.true_and]
      rfl
  · rintro x w1 ⟨rfl, hR1, k1⟩
    simp only [spec_reader_word.t1]
    have c1 := hR1.cell 1
    have f1 := hR1.free 1
    cases hW : wordB s i v with
    | false => exact sat_iteT.2 (s_leaf ⟨rfl, rfl, hR1, k1⟩)
    | true =>
      have := wordB_lt hW
      refine sat_iteF.2 (s_ptr ?_)
      simp only [addr_add, Nat.zero_add]
      refine s_load (i : Int) c1 (s_ptr (s_store c1 f1 (s_leaf ⟨rfl, rfl, ?_, k1.on _ _⟩)))
      rw [if_pos trivial]
      exact hR1.toI (by rw [wrap_in (by omega) (by omega)]; rfl)

theorem isX_ask {c : Int} {l : Nat} {Q : Nat → List Value → World → Prop} {P : Program} {w : World} {x : Int} {t : T} (h : c = x → Q l [.bool true] w) (h' : c ≠ x → sat P t Q w) : sat P (.ite (c == x) (.leaf l [.bool (c == x)]) t) Q w :=
  s_iteE (fun e => s_leaf (by subst e; simpa using h rfl)) h'
theorem escape_any {w : World} {g : Nat} {s : ByteArray} {i : Nat} (hs : s.size < 4611686018427387904) (hi : i ≤ s.size) (hR : RdAt w g s i) :
    Calls Tryz.prog 86 #[.pointer (some ⟨g, 0, none⟩)] w (NumPost g s (escE s i) w) := by
  refine spec_reader_escape.calls _ ?_
  unfold spec_reader_escape.t
  refine s_call (here_any hR) ?_
  rintro e w1 ⟨rfl, hR1, k1⟩
  refine ⟨_, rfl, ?_⟩
  have c1 := hR1.cell 1
  have f1 := hR1.free 1
  refine s_cut (fun x w' => x = (isX (bt s i), ()) ∧ w1 = w') ?_ ?_
  · generalize bt s i = c
    have y1 : isX c = true → (∃ x, [Value.bool true] = (Sh.cons .bool .nil).vals x ∧ x = (isX c, ()) ∧ w1 = w1) := fun h => ⟨(true, ()), rfl, by rw [h]; rfl, rfl⟩
    refine isX_ask (fun h => ?_) (fun h1 => ?_)
    · rw [if_pos rfl]; exact y1 (by subst h; rfl)
    refine s_cut (fun x w' => x = (isX c, ()) ∧ w1 = w') ?_ (by rintro x w' ⟨rfl, rfl⟩; refine s_leaf ?_; rw [if_pos rfl]; exact ⟨(_, ()), rfl, rfl, rfl⟩)
    refine isX_ask (fun h => ?_) (fun h2 => ?_)
    · rw [if_pos rfl]; exact y1 (by subst h; rfl)
    refine s_cut (fun x w' => x = (isX c, ()) ∧ w1 = w') ?_ (by rintro x w' ⟨rfl, rfl⟩; refine s_leaf ?_; rw [if_pos rfl]; exact ⟨(_, ()), rfl, rfl, rfl⟩)
    refine isX_ask (fun h => ?_) (fun h3 => ?_)
    · rw [if_pos rfl]; exact y1 (by subst h; rfl)
    refine s_cut (fun x w' => x = (isX c, ()) ∧ w1 = w') ?_ (by rintro x w' ⟨rfl, rfl⟩; refine s_leaf ?_; rw [if_pos rfl]; exact ⟨(_, ()), rfl, rfl, rfl⟩)
    refine isX_ask (fun h => ?_) (fun h4 => ?_)
    · rw [if_pos rfl]; exact y1 (by subst h; rfl)
    refine s_cut (fun x w' => x = (isX c, ()) ∧ w1 = w') ?_ (by rintro x w' ⟨rfl, rfl⟩; refine s_leaf ?_; rw [if_pos rfl]; exact ⟨(_, ()), rfl, rfl, rfl⟩)
    refine isX_ask (fun h => ?_) (fun h5 => ?_)
    · rw [if_pos rfl]; exact y1 (by subst h; rfl)
    refine s_cut (fun x w' => x = (isX c, ()) ∧ w1 = w') ?_ (by rintro x w' ⟨rfl, rfl⟩; refine s_leaf ?_; rw [if_pos rfl]; exact ⟨(_, ()), rfl, rfl, rfl⟩)
    refine isX_ask (fun h => ?_) (fun h6 => ?_)
    · rw [if_pos rfl]; exact y1 (by subst h; rfl)
    refine s_cut (fun x w' => x = (isX c, ()) ∧ w1 = w') ?_ (by rintro x w' ⟨rfl, rfl⟩; refine s_leaf ?_; rw [if_pos rfl]; exact ⟨(_, ()), rfl, rfl, rfl⟩)
    refine isX_ask (fun h => ?_) (fun h7 => ?_)
    · rw [if_pos rfl]; exact y1 (by subst h; rfl)
    refine s_leaf ?_
    rw [if_pos rfl]
    refine ⟨(c == 116, ()), rfl, ?_, rfl⟩
    have : isX c = (c == 116) := by simp [isX, h1, h2, h3, h4, h5, h6, h7]
    rw [this]; rfl
  rintro x w2 ⟨rfl, rfl⟩
  simp only [spec_reader_escape.t7]
  have step : ∀ {j : Nat} {w' : World}, RdAt w' g s j → j < s.size → RdAt (w'.setCell ⟨g, 1, none⟩ (.int .i64 (IntKind.wrap .i64 ((j : Int) + 1)))) g s (j + 1) := fun h hj => h.toI (by rw [wrap_in (by omega) (by omega)]; rfl)
  refine s_cut (fun x w' => escE s i = none ∧ RdAt w' g s i ∧ Kp (On g) w w') ?_ ?_
  · cases hX : isX (bt s i) with
    | true =>
      have hlt : i < s.size := lt_of_bt (by have := isX_iff.1 hX; omega)
      refine sat_iteT.2 (s_ptr ?_)
      simp only [addr_add, Nat.zero_add]
      refine s_load (i : Int) c1 (s_ptr (s_store c1 f1 (s_leaf ?_)))
      rw [if_neg (by decide)]
      exact ⟨rfl, .yes (escE_x hX) hlt (step hR1 hlt) (k1.on _ _)⟩
    | false =>
      refine sat_iteF.2 (s_iteE (fun hu => ?_) (fun hu => ?_))
      · have hlt : i < s.size := lt_of_bt (by omega)
        refine s_ptr ?_
        simp only [addr_add, Nat.zero_add]
        refine s_load (i : Int) c1 (s_ptr (s_store c1 f1 ?_))
        have hE := escE_u hu
        refine s_loop (fun n x w' => ∃ k : Nat, x = ((k : Int), ()) ∧ n = 4 - k ∧ k ≤ 4 ∧ i + 1 + k ≤ s.size ∧ escE s i = hexE s (i + 1 + k) (4 - k) ∧ RdAt w' g s (i + 1 + k) ∧ Kp (On g) w w') 4 ((0 : Int), ()) rfl
          ⟨0, rfl, rfl, by omega, hlt, hE, step hR1 hlt, k1.on _ _⟩ ?_
        rintro n x w3 ⟨k, rfl, rfl, hk, hle, hE3, hR3, k3⟩
        simp only [spec_reader_escape.t8]
        refine s_iteD (fun h4 => ?_) (fun h4 => ?_)
        · refine s_call (here_any hR3) ?_
          rintro e w4 ⟨rfl, hR4, k4⟩
          refine ⟨_, rfl, ?_⟩
          refine s_call (hexDigit_any _ _) ?_
          rintro e w5 ⟨rfl, rfl⟩
          refine ⟨(hexV (bt s (i + 1 + k : Nat)), isH (bt s (i + 1 + k : Nat)), ()), rfl, ?_⟩
          have k5 := k3.trans k4
          have e4 : 4 - k = (4 - (k + 1)) + 1 := by omega
          rw [e4] at hE3
          simp only [hexE] at hE3
          cases hH : isH (bt s (i + 1 + k : Nat)) with
          | false =>
            refine sat_iteT.2 (s_leaf ?_)
            rw [if_neg (by decide), if_neg (by decide)]
            rw [hH] at hE3
            exact ⟨rfl, .no hE3 hle hR4 k5⟩
          | true =>
            have hlt2 : i + 1 + k < s.size := lt_of_bt (by have := isH_iff.1 hH; omega)
            have c1 := hR4.cell 1
            have f1 := hR4.free 1
            refine sat_iteF.2 (s_ptr ?_)
            simp only [addr_add, Nat.zero_add]
            refine s_load ((i + 1 + k : Nat) : Int) c1 (s_ptr (s_store c1 f1 (s_leaf ?_)))
            rw [if_pos rfl, wrap_in (n := (k : Int) + 1) (by omega) (by omega)]
            rw [hH, if_pos rfl] at hE3
            exact ⟨4 - (k + 1), (((k + 1 : Nat) : Int), ()), rfl, by omega, k + 1, rfl, rfl, by omega, hlt2, hE3, step hR4 hlt2, k5.on _ _⟩
        · have hk4 : k = 4 := by omega
          subst hk4
          refine s_leaf ?_
          rw [if_neg (by decide), if_neg (by decide)]
          exact ⟨rfl, .yes hE3 hle hR3 k3⟩
      · refine s_leaf ?_
        rw [if_pos rfl]
        exact ⟨(false, ()), rfl, escE_no hX hu, hR1, k1⟩
  · rintro x w3 ⟨hE, hR3, k3⟩
    exact s_leaf ⟨rfl, .no hE hi hR3 k3⟩

theorem quoted_any {w : World} {g : Nat} {s : ByteArray} {i : Nat} (hs : s.size < 4611686018427387904) (hi : i < s.size) (hR : RdAt w g s i) :
    Calls Tryz.prog 67 #[.pointer (some ⟨g, 0, none⟩)] w (NumPost g s (strE s (i + 1)) w) := by
  refine spec_reader_quoted.calls _ ?_
  unfold spec_reader_quoted.t
  have step : ∀ {j : Nat} {w' : World}, RdAt w' g s j → j < s.size → RdAt (w'.setCell ⟨g, 1, none⟩ (.int .i64 (IntKind.wrap .i64 ((j : Int) + 1)))) g s (j + 1) := fun h hj => h.toI (by rw [wrap_in (by omega) (by omega)]; rfl)
  have c1 := hR.cell 1
  have f1 := hR.free 1
  refine s_ptr ?_
  simp only [addr_add, Nat.zero_add]
  refine s_load (i : Int) c1 (s_ptr (s_store c1 f1 ?_))
  refine s_loop (fun n _ w' => ∃ j : Nat, j ≤ s.size ∧ n = s.size - j ∧ strE s j = strE s (i + 1) ∧ RdAt w' g s j ∧ Kp (On g) w w') (s.size - (i + 1)) () rfl ⟨i + 1, hi, rfl, rfl, step hR hi, (Kp.refl _ _).on _ _⟩ ?_
  rintro n x w1 ⟨j, hj, rfl, hE, hR1, k1⟩
  have hRd := hR1.drew
  have c0 := hRd.cell 0
  have c1 := hRd.cell 1
  have kd := k1.drew
  unfold spec_reader_quoted.t1
  refine s_drew (s_ptr ?_)
  simp only [addr_add, Nat.zero_add]
  refine s_load (j : Int) c1 (s_ptr (s_load s c0 ?_))
  refine s_iteD (fun h => ?_) (fun h => ?_)
  · have hlt : j < s.size := by omega
    have hRe := hRd.drew
    have c0 := hRe.cell 0
    have c1 := hRe.cell 1
    have f1 := hRe.free 1
    have ke := kd.drew
    refine s_drew (s_ptr (s_load s c0 (s_ptr (s_load (j : Int) c1 (s_chk (by omega) (s_ptr (s_load (j : Int) c1 (s_ptr (s_store c1 f1 ?_)))))))))
    have hR2 := step hRe hlt
    have k2 : Kp (On g) w _ := ke.on 1 (.int .i64 (IntKind.wrap .i64 ((j : Int) + 1)))
    refine s_iteE (fun hq => ?_) (fun hq => ?_)
    · refine s_leaf ?_
      rw [if_neg (by decide)]
      exact ⟨rfl, .yes (by rw [← hE, strE_q hq]) hlt hR2 k2⟩
    refine s_iteD (fun hc => ?_) (fun hc => ?_)
    · refine s_leaf ?_
      rw [if_neg (by decide)]
      exact ⟨rfl, .no (by rw [← hE, strE_ctl hc]) hlt hR2 k2⟩
    refine s_iteE (fun hb => ?_) (fun hb => ?_)
    · refine s_call (escape_any hs hlt hR2) ?_
      rintro e w3 ⟨m, rfl, hm, hle, hR3, k3⟩
      refine ⟨_, rfl, ?_⟩
      have hE2 : strE s (i + 1) = (escE s (j + 1)).bind (strE s) := by rw [← hE, strE_esc hb]
      cases he : escE s (j + 1) with
      | none =>
        refine sat_iteT.2 (s_leaf ?_)
        rw [if_neg (by decide)]
        exact ⟨rfl, .no (by rw [hE2, he]; rfl) hle hR3 (k2.trans k3)⟩
      | some m' =>
        have := hm m' he
        subst this
        refine sat_iteF.2 (s_leaf ?_)
        rw [if_pos rfl]
        have := (escE_le he).1
        exact ⟨s.size - m, (), rfl, by omega, m, hle, rfl, by rw [hE2, he]; rfl, hR3, k2.trans k3⟩
    · refine s_leaf ?_
      rw [if_pos rfl]
      exact ⟨s.size - (j + 1), (), rfl, by omega, j + 1, hlt, rfl, by rw [← hE, strE_plain hlt hq hc hb], hR2, k2⟩
  · refine s_leaf ?_
    rw [if_neg (by decide)]
    exact ⟨rfl, .no (by rw [← hE, strE_end (by omega)]) hj hRd kd⟩
end Go.Proofs.YtkpnomdmnhhaoaaGreatDoor.Sr
namespace Go.Proofs.YtkpnomdmnhhaoaaGreatDoor.Sr
open Go Go.Proofs Go.Proofs.YtkpnomdmnhhaoaaGreatDoor.Rx Go.Proofs.YtkpnomdmnhhaoaaGreatDoor.Tr Go.Proofs.YtkpnomdmnhhaoaaGreatDoor.Pl

abbrev tP : TypeId := 60
abbrev tPs : TypeId := 58
abbrev tN : TypeId := 83
abbrev tNs : TypeId := 57
theorem push_place {w : World} {base : Nat} {x : Sl} {n : Nat} {xs : List Value} (hown : w.ownsRow base tP 5 (slV x) n xs) (k b e : Int) (na ka : Sl) (hn : n + 1 ≤ 4294967296) (hbase : base ≤ w.heap.size) :
    ∃ w1, (Instr.buildSlice tPs 1 #[(0, .agg (pc k b e na ka).toArray)]).run Tryz.prog w = .ok (.slice (some ⟨w.heap.size, 0, none⟩) 1 1) w1 ∧
      ∃ (x' : Sl) (w2 : World), (Builtin.append_ #[tPs, tPs] tPs #[slV x, .slice (some ⟨w.heap.size, 0, none⟩) 1 1]).run Tryz.prog w1 = .ok (slV x') w2 ∧ w2.ownsRow base tP 5 (slV x') (n + 1) (xs ++ pc k b e na ka) ∧
        Kp (fun q => some q = (slV x).ownBlock) w w2 ∧ (∀ q, some q = (slV x').ownBlock → some q = (slV x).ownBlock ∨ w.heap.size ≤ q) := by
  obtain ⟨w1, h1, a, c, w2, h2, h3, h4, h5⟩ := push_run (P := Tryz.prog) (t := tPs) (e := tP) (z0 := .agg (pc 0 0 0 (none, 0, 0) (none, 0, 0)).toArray) Tryz.underlying58 (info_some (by kernel_rfl)) (by kernel_rfl) (by kernel_rfl)
    (of_decide_eq_true (by kernel_rfl)) rfl (by decide) (by decide) hown (.agg (pc k b e na ka).toArray) (pc k b e na ka) rfl rfl (pc_oneC _ _ _ _ _) hn hbase
  exact ⟨w1, h1, (a, n + 1, c), w2, h2, h3, h4, h5⟩
theorem push_span {w : World} {base : Nat} {x : Sl} {n : Nat} {xs : List Value} (hown : w.ownsRow base tN 2 (slV x) n xs) (b e : Nat) (hn : n + 1 ≤ 4294967296) (hbase : base ≤ w.heap.size) :
    ∃ w1, (Instr.buildSlice tNs 1 #[(0, .agg #[.int .i64 b, .int .i64 e])]).run Tryz.prog w = .ok (.slice (some ⟨w.heap.size, 0, none⟩) 1 1) w1 ∧
      ∃ (x' : Sl) (w2 : World), (Builtin.append_ #[tNs, tNs] tNs #[slV x, .slice (some ⟨w.heap.size, 0, none⟩) 1 1]).run Tryz.prog w1 = .ok (slV x') w2 ∧ w2.ownsRow base tN 2 (slV x') (n + 1) (xs ++ spanC (b, e)) ∧
        Kp (fun q => some q = (slV x).ownBlock) w w2 ∧ (∀ q, some q = (slV x').ownBlock → some q = (slV x).ownBlock ∨ w.heap.size ≤ q) := by
  obtain ⟨w1, h1, a, c, w2, h2, h3, h4, h5⟩ := push_run (P := Tryz.prog) (t := tNs) (e := tN) (z0 := .agg #[.int .i64 0, .int .i64 0]) Tryz.underlying57 (info_some (by kernel_rfl)) (by kernel_rfl) (by kernel_rfl)
    (of_decide_eq_true (by kernel_rfl)) rfl (by decide) (by decide) hown (.agg #[.int .i64 b, .int .i64 e]) (spanC (b, e)) rfl rfl (by intro u hu; simp [spanC] at hu; rcases hu with rfl | rfl <;> rfl) hn hbase
  exact ⟨w1, h1, (a, n + 1, c), w2, h2, h3, h4, h5⟩
theorem loadP {w : World} {g : Nat} {k b e : Int} {na ka : Sl} (h : Blk w g (pc k b e na ka) tP) : (Instr.loadAt tP (.pointer (some ⟨g, 0, none⟩))).run Tryz.prog w = .ok (.agg (pc k b e na ka).toArray) w :=
  loadAt_run (by kernel_rfl) (info_some (by kernel_rfl)) (by kernel_rfl) h
theorem storeP {w : World} {g : Nat} {cs : List Value} (h : Blk w g cs tP) (hl : cs.length = 5) (k b e : Int) (na ka : Sl) :
    ∃ w', (Instr.storeAt tP (.pointer (some ⟨g, 0, none⟩)) (.agg (pc k b e na ka).toArray)).run Tryz.prog w = .ok () w' ∧ Blk w' g (pc k b e na ka) tP ∧ Kp (On g) w w' :=
  storeAt_run (P := Tryz.prog) (t := tP) (pc k b e na ka) h (info_some (by kernel_rfl)) (by kernel_rfl) (by rw [hl]; rfl) rfl

def ValPost (g : Nat) (s : ByteArray) (w : World) (r : Option PT) (e : Ending) (w' : World) : Prop :=
  ∃ (k b e1 : Int) (na ka : Sl) (j : Nat), e = .returned (.tuple #[.agg (pc k b e1 na ka).toArray, .bool r.isSome]) ∧ j ≤ s.size ∧ RdAt w' g s j ∧ Kp (On g) w w' ∧ ∀ p, r = some p → j = p.e ∧ PlAt (fun q => w.heap.size ≤ q) w' p (pc k b e1 na ka)
def elems0 (s : ByteArray) (i : Nat) : Option (List PT × Nat) := if bt s (bl s (i + 1)) = 93 then some ([], bl s (i + 1) + 1) else elems s (bl s (i + 1))
def mems0 (s : ByteArray) (i : Nat) : Option (List (Nat × Nat) × List PT × Nat) := if bt s (bl s (i + 1)) = 125 then some ([], [], bl s (i + 1) + 1) else mems s (bl s (i + 1))
def ElPost (g : Nat) (s : ByteArray) (w : World) (r : Option (List PT × Nat)) (e : Ending) (w' : World) : Prop :=
  ∃ (ka : Sl) (j : Nat), e = .returned (.tuple #[slV ka, .bool r.isSome]) ∧ j ≤ s.size ∧ RdAt w' g s j ∧ Kp (On g) w w' ∧
    ∀ x, r = some x → j = x.2 ∧ ∃ xs, RowIn (fun q => w.heap.size ≤ q) w' ka x.1.length xs 5 ∧ AllAt (fun q => w.heap.size ≤ q) w' x.1 xs
def MePost (g : Nat) (s : ByteArray) (w : World) (r : Option (List (Nat × Nat) × List PT × Nat)) (e : Ending) (w' : World) : Prop :=
  ∃ (na ka : Sl) (j : Nat), e = .returned (.tuple #[slV na, slV ka, .bool r.isSome]) ∧ j ≤ s.size ∧ RdAt w' g s j ∧ Kp (On g) w w' ∧
    ∀ x, r = some x → j = x.2.2 ∧ RowIn (fun q => w.heap.size ≤ q) w' na x.1.length (x.1.flatMap spanC) 2 ∧ ∃ xs, RowIn (fun q => w.heap.size ≤ q) w' ka x.2.1.length xs 5 ∧ AllAt (fun q => w.heap.size ≤ q) w' x.2.1 xs
/-- What is asked of 'value' at a place. -/
def ValAt (g : Nat) (s : ByteArray) (i : Nat) : Prop := ∀ w, RdAt w g s i → Calls Tryz.prog 42 #[.pointer (some ⟨g, 0, none⟩)] w (ValPost g s w (val s i))

/-- How 'value' ends. -/
theorem v_end {w : World} {Q : Nat → List Value → World → Prop} {g z0 z3 j : Nat} {s : ByteArray} {k b0 e0 : Int} {na ka : Sl} {c0 : List Value} {b : Bool} (hR : RdAt w g s j) (h3 : Blk w z3 (pc k b0 e0 na ka) tP) (h0 : Blk w z0 c0 tP) (hl : c0.length = 5)
    (hz : z0 ≠ z3) (hQ : ∀ w', Kp (fun q => q = z3 ∨ q = z0) w w' → Q 0 [.agg (pc k b0 j na ka).toArray, .bool b] w') :
    sat Tryz.prog (.ptr (some ⟨g, 0, none⟩) fun (z22 : Addr) =>
      .load (Addr.add z22 1) (.int .i64) fun (i23 : Int) =>
      .store (Addr.add ⟨z3, 0, none⟩ 2) (Value.int IntKind.i64 i23) <|
      .eff (Instr.loadAt tP (Value.pointer (some ⟨z3, 0, none⟩))) (.agg (.cons (.int .i64) (.cons (.int .i64) (.cons (.int .i64) (.cons .slice (.cons .slice .nil)))))) fun (z24 : (Int × (Int × (Int × (((Option Addr) × (Nat × Nat)) × (((Option Addr) × (Nat × Nat)) × PUnit)))))) =>
      .effU (Instr.storeAt tP (Value.pointer (some ⟨z0, 0, none⟩)) (Value.agg #[(Value.int IntKind.i64 (z24).1), (Value.int IntKind.i64 ((z24).2).1), (Value.int IntKind.i64 (((z24).2).2).1), (Value.slice (((((z24).2).2).2).1).1 ((((((z24).2).2).2).1).2).1 ((((((z24).2).2).2).1).2).2), (Value.slice ((((((z24).2).2).2).2).1).1 (((((((z24).2).2).2).2).1).2).1 (((((((z24).2).2).2).2).1).2).2)])) <|
      .effS (Instr.loadAt tP (Value.pointer (some ⟨z0, 0, none⟩))) (.agg (.cons (.int .i64) (.cons (.int .i64) (.cons (.int .i64) (.cons .slice (.cons .slice .nil)))))) fun (z25 : (Int × (Int × (Int × (((Option Addr) × (Nat × Nat)) × (((Option Addr) × (Nat × Nat)) × PUnit)))))) =>
      .leaf 0 [(Value.agg #[(Value.int IntKind.i64 (z25).1), (Value.int IntKind.i64 ((z25).2).1), (Value.int IntKind.i64 (((z25).2).2).1), (Value.slice (((((z25).2).2).2).1).1 ((((((z25).2).2).2).1).2).1 ((((((z25).2).2).2).1).2).2), (Value.slice ((((((z25).2).2).2).2).1).1 (((((((z25).2).2).2).2).1).2).1 (((((((z25).2).2).2).2).1).2).2)]), (Value.bool b)]) Q w := by
  refine s_ptr ?_
  simp only [addr_add, Nat.zero_add]
  refine s_load (j : Int) (hR.cell 1) (s_store (h3.cell 2) (h3.free 2) ?_)
  have h3' : Blk _ z3 (pc k b0 j na ka) tP := h3.set 2 (.int .i64 j)
  have h0' := h0.setOther (a := ⟨z3, 2, none⟩) (fun e => hz e.symm) (.int .i64 j)
  have k1 : Kp (fun q => q = z3 ∨ q = z0) w _ := (Kp.refl _ w).set (a := ⟨z3, 2, none⟩) (Or.inl rfl) (.int .i64 j)
  refine s_eff (k, b0, (j : Int), na, ka, ()) (loadP h3') ?_
  obtain ⟨w2, h4, h5, h6⟩ := storeP h0' hl k b0 j na ka
  refine s_effU h4 ?_
  refine s_effS (k, b0, (j : Int), na, ka, ()) (loadP h5) (s_leaf ?_)
  exact hQ w2 (k1.trans (h6.mono fun q _ e => .inr e))

theorem val_arr {s : ByteArray} {i : Nat} (h : bt s i = 91) : val s i = (elems0 s i).map fun x => .mk 5 i x.2 [] x.1 := by
  rw [val, dif_neg (by omega), dif_pos h, elems0]
  split
  · rfl
  · cases elems s (bl s (i + 1)) <;> rfl
theorem val_obj {s : ByteArray} {i : Nat} (h : bt s i = 123) : val s i = (mems0 s i).map fun x => .mk 6 i x.2.2 x.1 x.2.1 := by
  rw [val, dif_pos h, mems0]
  split
  · rfl
  · cases mems s (bl s (i + 1)) <;> rfl
theorem elems_none {s : ByteArray} {i : Nat} (h : val s i = none) : elems s i = none := by rw [elems, h]
theorem elems_last {s : ByteArray} {i : Nat} {p : PT} (h : val s i = some p) (h' : bt s (bl s p.e) = 93) : elems s i = some ([p], bl s p.e + 1) := by
  rw [elems, h]; simp only; rw [if_pos h']
theorem elems_more {s : ByteArray} {i : Nat} {p : PT} (hi : i ≤ s.size) (h : val s i = some p) (h' : bt s (bl s p.e) = 44) : elems s i = (elems s (bl s (bl s p.e + 1))).map fun x => (p :: x.1, x.2) := by
  rw [elems, h]; simp only
  have := (val_end hi h).2.1
  have := bl_ge s p.e
  rw [if_neg (by omega), dif_pos ⟨h', by omega⟩]
  cases elems s (bl s (bl s p.e + 1)) <;> rfl
theorem elems_bad {s : ByteArray} {i : Nat} {p : PT} (h : val s i = some p) (h1 : bt s (bl s p.e) ≠ 93) (h2 : bt s (bl s p.e) ≠ 44) : elems s i = none := by
  rw [elems, h]; simp only; rw [if_neg h1, dif_neg (fun e => h2 e.1)]
theorem mems_q {s : ByteArray} {i : Nat} (h : bt s i ≠ 34) : mems s i = none := by rw [mems, if_neg h]
theorem mems_s {s : ByteArray} {i : Nat} (h : bt s i = 34) (h' : strE s (i + 1) = none) : mems s i = none := by rw [mems, if_pos h, h']
theorem mems_c {s : ByteArray} {i n : Nat} (h : bt s i = 34) (h' : strE s (i + 1) = some n) (h2 : bt s (bl s n) ≠ 58) : mems s i = none := by rw [mems, if_pos h, h']; simp only; rw [dif_neg (fun e => h2 e.1)]
theorem mems_v {s : ByteArray} {i n : Nat} (h : bt s i = 34) (h' : strE s (i + 1) = some n) (h2 : bt s (bl s n) = 58) : mems s i = match val s (bl s (bl s n + 1)) with
    | none => none
    | some p =>
      if bt s (bl s p.e) = 125 then some ([(i, n)], [p], bl s p.e + 1)
      else if bt s (bl s p.e) = 44 then (mems s (bl s (bl s p.e + 1))).map fun x => ((i, n) :: x.1, p :: x.2.1, x.2.2)
      else none := by
  have h3 := strE_le h'
  have h4 := bl_ge s n
  have h5 : bl s n < s.size := lt_of_bt (by omega)
  have h6 := bl_ge s (bl s n + 1)
  rw [mems, if_pos h, h']; simp only; rw [dif_pos ⟨h2, by omega⟩]
  cases hv : val s (bl s (bl s n + 1)) with
  | none => rfl
  | some p =>
    simp only
    have h7 : bl s (bl s n + 1) < p.e := (val_end (bl_le s _ h5) hv).2.1
    have h8 := bl_ge s p.e
    split
    · rfl
    · by_cases hc : bt s (bl s p.e) = 44
      · rw [dif_pos ⟨hc, by omega⟩, if_pos hc]
        cases mems s (bl s (bl s p.e + 1)) <;> rfl
      · rw [dif_neg (fun e => hc e.1), if_neg hc]
end Go.Proofs.YtkpnomdmnhhaoaaGreatDoor.Sr
namespace Go.Proofs.YtkpnomdmnhhaoaaGreatDoor.Sr
open Go Go.Proofs Go.Proofs.YtkpnomdmnhhaoaaGreatDoor.Rx Go.Proofs.YtkpnomdmnhhaoaaGreatDoor.Tr Go.Proofs.YtkpnomdmnhhaoaaGreatDoor.Pl

theorem el_no {g : Nat} {s : ByteArray} {w w' : World} {r : Option (List PT × Nat)} {j : Nat} (h : r = none) (hj : j ≤ s.size) (hR : RdAt w' g s j) (k : Kp (On g) w w') : ElPost g s w r (.returned (retVal [.slice none 0 0, .bool false])) w' := by
  subst h; exact ⟨(none, 0, 0), j, rfl, hj, hR, k, fun x hx => by cases hx⟩
theorem me_no {g : Nat} {s : ByteArray} {w w' : World} {r : Option (List (Nat × Nat) × List PT × Nat)} {j : Nat} (h : r = none) (hj : j ≤ s.size) (hR : RdAt w' g s j) (k : Kp (On g) w w') : MePost g s w r (.returned (retVal [.slice none 0 0, .slice none 0 0, .bool false])) w' := by
  subst h; exact ⟨(none, 0, 0), (none, 0, 0), j, rfl, hj, hR, k, fun x hx => by cases hx⟩

theorem elements_any {w0 : World} {g : Nat} {s : ByteArray} {i : Nat} (hs : s.size < 4294967295) (hi : i < s.size) (hR : RdAt w0 g s i) (hV : ∀ j, i < j → j ≤ s.size → ValAt g s j) :
    Calls Tryz.prog 66 #[.pointer (some ⟨g, 0, none⟩)] w0 (ElPost g s w0 (elems0 s i)) := by
  refine spec_reader_elements.calls _ ?_
  unfold spec_reader_elements.t
  have hs' : s.size < 4611686018427387904 := by omega
  have hg : g < w0.heap.size := Blk.lt hR
  refine s_ptr ?_
  simp only [addr_add, Nat.zero_add]
  refine s_load (i : Int) (hR.cell 1) (s_ptr (s_store (hR.cell 1) (hR.free 1) ?_))
  rw [wrap_in (by omega) (by omega)]
  have hR1 : RdAt (w0.setCell ⟨g, 1, none⟩ (.int .i64 ((i : Int) + 1))) g s (i + 1) := hR.toI rfl
  have k1 : Kp (On g) w0 _ := (Kp.refl (On g) w0).on 1 (.int .i64 ((i : Int) + 1))
  refine s_call (blanks_any hs' hi hR1) ?_
  rintro e w2 ⟨rfl, hR2, k2⟩
  refine ⟨(), rfl, ?_⟩
  have hb := bl_le s _ hi
  have hbg := bl_ge s (i + 1)
  refine s_call (take_any 93 hs' hR2) ?_
  rintro e w3 ⟨rfl, hR3, k3⟩
  refine ⟨_, rfl, ?_⟩
  have k4 := (k1.trans k2).trans k3
  unfold elems0
  cases hT : takeB s (bl s (i + 1)) 93 with
  | true =>
    refine sat_iteT.2 (s_leaf ⟨rfl, ?_⟩)
    rw [if_pos ((takeB_bt (by decide)).1 hT)]
    rw [takeI_yes hT] at hR3
    exact ⟨(none, 0, 0), _, rfl, takeB_lt hT, hR3, k4, fun x hx => by cases hx; exact ⟨rfl, [], RowIn.nil, AllAt.nil⟩⟩
  | false =>
    refine sat_iteF.2 ?_
    rw [if_neg ((takeB_btF (by decide)).1 hT)]
    rw [takeI_no hT] at hR3
    generalize bl s (i + 1) = i0 at *
    refine s_loop (fun n x w' => ∃ (j : Nat) (ks : List PT) (xs : List Value) (v : Sl), x = (v, ()) ∧ n = s.size - j ∧ i < j ∧ j ≤ s.size ∧ ks.length ≤ j ∧ elems s i0 = (elems s j).map (fun x => (ks ++ x.1, x.2)) ∧
        w'.ownsRow w0.heap.size tP 5 (slV v) ks.length xs ∧ AllAt (fun q => w0.heap.size ≤ q ∧ some q ≠ (slV v).ownBlock) w' ks xs ∧ RdAt w' g s j ∧ Kp (On g) w0 w')
      (s.size - i0) ((none, 0, 0), ()) rfl ⟨i0, [], [], (none, 0, 0), rfl, rfl, by omega, hb, by simp, by cases elems s i0 <;> rfl, World.ownsRow_nil _ _ _ _, AllAt.nil, hR3, k4⟩ ?_
    clear hR hR1 hR2 hR3 k1 k2 k3 k4 hT
    rintro n x w1 ⟨j, ks, xs, v, rfl, rfl, hij, hj, hlen, hE, hO, hA, hR, k1⟩
    unfold spec_reader_elements.t1
    refine s_call (hV j hij hj w1 hR) ?_
    rintro e w2 ⟨k, b, e1, na, ka, m, rfl, hm, hR2, k2, hp⟩
    refine ⟨((k, b, e1, na, ka, ()), (val s j).isSome, ()), rfl, ?_⟩
    -- the local copy
    refine s_alloc ?_
    have hb6 := Blk.new w2 (pc 0 0 0 (none, 0, 0) (none, 0, 0)) tP
    obtain ⟨w3, h3, hb3, k3⟩ := storeP hb6 rfl k b e1 na ka
    refine s_effU h3 ?_
    have kc : Kp Off w2 w3 := (((Kp.refl (fun q => q = w2.heap.size) w2).alloc _).trans (k3.mono fun q _ h => h)).mono fun q hq h => by omega
    have hg1 : ¬ Off g := id
    have hg2 : g < w2.heap.size := Blk.lt hR2
    have hR3 : RdAt w3 g s m := kc.blk hR2 hg1
    have k03 : Kp (On g) w0 w3 := (k1.trans k2).trans kc.off
    have hsz1 : w0.heap.size ≤ w1.heap.size := k1.size
    have hsz2 : w1.heap.size ≤ w2.heap.size := k2.size
    have hsz3 : w2.heap.size ≤ w3.heap.size := kc.size
    cases hv : val s j with
    | none =>
      refine sat_iteT.2 (s_leaf ?_)
      rw [if_neg (by decide)]
      exact ⟨rfl, el_no (by rw [hE, elems_none hv]; rfl) hm hR3 k03⟩
    | some p =>
      obtain ⟨rfl, hP⟩ := hp p hv
      refine sat_iteF.2 ?_
      refine s_eff (k, b, e1, na, ka, ()) (loadP hb3) ?_
      -- what was is still there
      have own_ge : ∀ q, some q = (slV v).ownBlock → w0.heap.size ≤ q ∧ q < w1.heap.size := fun q hq => hO.lt q hq.symm
      have own_g : some g ≠ (slV v).ownBlock := fun e => by have := (own_ge g e).1; omega
      have hO3 : w3.ownsRow w0.heap.size tP 5 (slV v) ks.length xs := owns_kp (owns_kp hO k2 fun q hq h => own_g (by rw [← hq, (show q = g from h)])) kc fun q _ h => h
      have hA3 : AllAt (fun q => w0.heap.size ≤ q ∧ some q ≠ (slV v).ownBlock) w3 ks xs :=
        (hA.kp k2 fun q _ h => ⟨h, fun e => by have : q = g := e; omega⟩ : AllAt (fun q => w0.heap.size ≤ q ∧ some q ≠ (slV v).ownBlock) w2 ks xs).kp kc fun q _ h => ⟨h, fun e => e⟩
      have hP3 : PlAt (fun q => w0.heap.size ≤ q ∧ some q ≠ (slV v).ownBlock) w3 p (pc k b e1 na ka) :=
        hP.kp kc fun q _ h => ⟨⟨by omega, fun e => by have := (own_ge q e).2; omega⟩, fun e => e⟩
      have hv' := val_end hj hv
      obtain ⟨w4, h4, v', w5, h5, hO5, k5, hnew⟩ := push_place hO3 k b e1 na ka (by omega) (by omega)
      refine s_eff (some ⟨w3.heap.size, 0, none⟩, 1, 1) h4 ?_
      refine s_eff v' h5 ?_
      have hR5 : RdAt w5 g s p.e := k5.blk hR3 fun e => own_g e
      have k05 : Kp (On g) w0 w5 := k03.then k5 fun q hq e => by have := (own_ge q e).1; omega
      have mv : ∀ q, q < w3.heap.size → (w0.heap.size ≤ q ∧ some q ≠ (slV v).ownBlock) → (w0.heap.size ≤ q ∧ some q ≠ (slV v').ownBlock) ∧ ¬ (some q = (slV v).ownBlock) := fun q hq h =>
        ⟨⟨h.1, fun e => by
          rcases hnew q e with h' | h'
          · exact h.2 h'
          · omega⟩, h.2⟩
      have hA5 := (hA3.snoc hP3).kp k5 mv
      have hlen5 : (ks ++ [p]).length = ks.length + 1 := by simp
      rw [← hlen5] at hO5
      have own5 : some g ≠ (slV v').ownBlock := fun e => by
        rcases hnew g e with h' | h'
        · exact own_g h'
        · omega
      clear hA3 hP3 hO3 hR3 mv
      refine s_call (blanks_any hs' hm hR5) ?_
      rintro e w6 ⟨rfl, hR6, k6⟩
      refine ⟨(), rfl, ?_⟩
      have hb6 := bl_le s _ hm
      have hbg6 := bl_ge s p.e
      refine s_call (take_any 93 hs' hR6) ?_
      rintro e w7 ⟨rfl, hR7, k7⟩
      refine ⟨_, rfl, ?_⟩
      have k57 := k6.trans k7
      have keep : ∀ {w'}, Kp (On g) w5 w' → w'.ownsRow w0.heap.size tP 5 (slV v') (ks ++ [p]).length (xs ++ pc k b e1 na ka) ∧ AllAt (fun q => w0.heap.size ≤ q ∧ some q ≠ (slV v').ownBlock) w' (ks ++ [p]) (xs ++ pc k b e1 na ka) := fun {w'} k =>
        ⟨owns_kp hO5 k fun q hq h => own5 (by rw [← hq, (show q = g from h)]), hA5.kp k fun q _ h => ⟨h, fun e => by have : q = g := e; omega⟩⟩
      cases hT : takeB s (bl s p.e) 93 with
      | true =>
        refine sat_iteT.2 (s_leaf ?_)
        rw [if_neg (by decide)]
        rw [takeI_yes hT] at hR7
        obtain ⟨o, a⟩ := keep k57
        have hE2 : elems s i0 = some (ks ++ [p], bl s p.e + 1) := by rw [hE, elems_last hv ((takeB_bt (by decide)).1 hT)]; rfl
        refine ⟨rfl, v', _, by rw [hE2]; rfl, takeB_lt hT, hR7, k05.trans k57, fun x hx => ?_⟩
        rw [hE2] at hx; cases hx
        exact ⟨rfl, _, RowIn.own o fun q _ h => h, a.kp (Kp.refl Off w7) fun q _ h => ⟨h.1, fun e => e⟩⟩
      | false =>
        refine sat_iteF.2 ?_
        rw [takeI_no hT] at hR7
        refine s_call (take_any 44 hs' hR7) ?_
        rintro e w8 ⟨rfl, hR8, k8⟩
        refine ⟨_, rfl, ?_⟩
        have k58 := k57.trans k8
        cases hT2 : takeB s (bl s p.e) 44 with
        | false =>
          refine sat_iteT.2 (s_leaf ?_)
          rw [if_neg (by decide)]
          rw [takeI_no hT2] at hR8
          exact ⟨rfl, el_no (by rw [hE, elems_bad hv ((takeB_btF (by decide)).1 hT) ((takeB_btF (by decide)).1 hT2)]; rfl) hb6 hR8 (k05.trans k58)⟩
        | true =>
          refine sat_iteF.2 ?_
          rw [takeI_yes hT2] at hR8
          have hlt := takeB_lt hT2
          refine s_call (blanks_any hs' hlt hR8) ?_
          rintro e w9 ⟨rfl, hR9, k9⟩
          refine ⟨(), rfl, s_leaf ?_⟩
          rw [if_pos rfl]
          have k59 := k58.trans k9
          obtain ⟨o, a⟩ := keep k59
          have hb9 := bl_le s _ hlt
          have hbg9 := bl_ge s (bl s p.e + 1)
          refine ⟨s.size - bl s (bl s p.e + 1), (v', ()), rfl, by omega, bl s (bl s p.e + 1), ks ++ [p], _, v', rfl, rfl, by omega, hb9, by rw [hlen5]; omega, ?_, o, a, hR9, k05.trans k59⟩
          rw [hE, elems_more hj hv ((takeB_bt (by decide)).1 hT2)]
          cases elems s (bl s (bl s p.e + 1)) <;> simp
end Go.Proofs.YtkpnomdmnhhaoaaGreatDoor.Sr
namespace Go.Proofs.YtkpnomdmnhhaoaaGreatDoor.Sr
open Go Go.Proofs Go.Proofs.YtkpnomdmnhhaoaaGreatDoor.Rx Go.Proofs.YtkpnomdmnhhaoaaGreatDoor.Tr Go.Proofs.YtkpnomdmnhhaoaaGreatDoor.Pl

theorem members_any {w0 : World} {g : Nat} {s : ByteArray} {i : Nat} (hs : s.size < 4294967295) (hi : i < s.size) (hR : RdAt w0 g s i) (hV : ∀ j, i < j → j ≤ s.size → ValAt g s j) :
    Calls Tryz.prog 65 #[.pointer (some ⟨g, 0, none⟩)] w0 (MePost g s w0 (mems0 s i)) := by
  refine spec_reader_members.calls _ ?_
  unfold spec_reader_members.t
  have hs' : s.size < 4611686018427387904 := by omega
  have hg : g < w0.heap.size := Blk.lt hR
  refine s_ptr ?_
  simp only [addr_add, Nat.zero_add]
  refine s_load (i : Int) (hR.cell 1) (s_ptr (s_store (hR.cell 1) (hR.free 1) ?_))
  rw [wrap_in (by omega) (by omega)]
  have hR1 : RdAt (w0.setCell ⟨g, 1, none⟩ (.int .i64 ((i : Int) + 1))) g s (i + 1) := hR.toI rfl
  have k1 : Kp (On g) w0 _ := (Kp.refl (On g) w0).on 1 (.int .i64 ((i : Int) + 1))
  refine s_call (blanks_any hs' hi hR1) ?_
  rintro e w2 ⟨rfl, hR2, k2⟩
  refine ⟨(), rfl, ?_⟩
  have hb := bl_le s _ hi
  have hbg := bl_ge s (i + 1)
  refine s_call (take_any 125 hs' hR2) ?_
  rintro e w3 ⟨rfl, hR3, k3⟩
  refine ⟨_, rfl, ?_⟩
  have k4 := (k1.trans k2).trans k3
  unfold mems0
  cases hT : takeB s (bl s (i + 1)) 125 with
  | true =>
    refine sat_iteT.2 (s_leaf ⟨rfl, ?_⟩)
    rw [if_pos ((takeB_bt (by decide)).1 hT)]
    rw [takeI_yes hT] at hR3
    exact ⟨(none, 0, 0), (none, 0, 0), _, rfl, takeB_lt hT, hR3, k4, fun x hx => by cases hx; exact ⟨rfl, RowIn.nil, [], RowIn.nil, AllAt.nil⟩⟩
  | false =>
    refine sat_iteF.2 ?_
    rw [if_neg ((takeB_btF (by decide)).1 hT)]
    rw [takeI_no hT] at hR3
    generalize bl s (i + 1) = i0 at *
    refine s_loop (fun n x w' => ∃ (j : Nat) (ns : List (Nat × Nat)) (ks : List PT) (xs : List Value) (v u : Sl), x = (v, u, ()) ∧ n = s.size - j ∧ i < j ∧ j ≤ s.size ∧ ks.length ≤ j ∧ ns.length = ks.length ∧
        mems s i0 = (mems s j).map (fun x => (ns ++ x.1, ks ++ x.2.1, x.2.2)) ∧
        w'.ownsRow w0.heap.size tP 5 (slV v) ks.length xs ∧ w'.ownsRow w0.heap.size tN 2 (slV u) ns.length (ns.flatMap spanC) ∧ (∀ q, some q = (slV v).ownBlock → some q ≠ (slV u).ownBlock) ∧
        AllAt (fun q => w0.heap.size ≤ q ∧ some q ≠ (slV v).ownBlock ∧ some q ≠ (slV u).ownBlock) w' ks xs ∧ RdAt w' g s j ∧ Kp (On g) w0 w')
      (s.size - i0) ((none, 0, 0), (none, 0, 0), ()) rfl ⟨i0, [], [], [], (none, 0, 0), (none, 0, 0), rfl, rfl, by omega, hb, by simp, rfl, by cases mems s i0 <;> rfl, World.ownsRow_nil _ _ _ _, World.ownsRow_nil _ _ _ _, (fun q h => (by cases h)), AllAt.nil, hR3, k4⟩ ?_
    clear hR hR1 hR2 hR3 k1 k2 k3 k4 hT
    rintro n x w1 ⟨j, ns, ks, xs, v, u, rfl, rfl, hij, hj, hlen, hnk, hE, hO, hN, hne, hA, hR, k1⟩
    unfold spec_reader_members.t1
    have own_ge : ∀ q, some q = (slV v).ownBlock → w0.heap.size ≤ q ∧ q < w1.heap.size := fun q hq => hO.lt q hq.symm
    have own_geN : ∀ q, some q = (slV u).ownBlock → w0.heap.size ≤ q ∧ q < w1.heap.size := fun q hq => hN.lt q hq.symm
    have own_g : some g ≠ (slV v).ownBlock := fun e => by have := (own_ge g e).1; omega
    have own_gN : some g ≠ (slV u).ownBlock := fun e => by have := (own_geN g e).1; omega
    refine s_ptr ?_
    simp only [addr_add, Nat.zero_add]
    refine s_load (j : Int) (hR.cell 1) ?_
    refine s_cut (fun x w' => Kp (On g) w1 w' ∧ ∃ m : Nat, m ≤ s.size ∧ RdAt w' g s m ∧ ((x = (true, ()) ∧ mems s j = none) ∨ (x = (false, ()) ∧ bt s j = 34 ∧ strE s (j + 1) = some m))) ?_ ?_
    · refine s_call (here_any hR) ?_
      rintro e w2 ⟨rfl, hR2, k2⟩
      refine ⟨_, rfl, ?_⟩
      refine s_iteN (fun h => ?_) (fun h => ?_)
      · refine s_leaf ?_; rw [if_pos rfl]
        exact ⟨(true, ()), rfl, k2, j, hj, hR2, .inl ⟨rfl, mems_q h⟩⟩
      · have hlt : j < s.size := lt_of_bt (by omega)
        refine s_call (quoted_any hs' hlt hR2) ?_
        rintro e w3 ⟨m, rfl, hm, hle, hR3, k3⟩
        refine ⟨_, rfl, s_leaf ?_⟩
        rw [if_pos rfl]
        refine ⟨(_, ()), rfl, k2.trans k3, m, hle, hR3, ?_⟩
        cases hq : strE s (j + 1) with
        | none => exact .inl ⟨rfl, mems_s h hq⟩
        | some m' => exact .inr ⟨rfl, h, by rw [hm m' hq]⟩
    rintro x w2 ⟨k2, m, hm, hR2, ⟨rfl, hbad⟩ | ⟨rfl, hq, hm'⟩⟩
    · simp only [spec_reader_members.t2]
      refine sat_iteT.2 (s_leaf ?_)
      rw [if_neg (by decide)]
      exact ⟨rfl, me_no (by rw [hE, hbad]; rfl) hm hR2 (k1.trans k2)⟩
    simp only [spec_reader_members.t2]
    refine sat_iteF.2 (s_ptr ?_)
    simp only [addr_add, Nat.zero_add]
    refine s_load (m : Int) (hR2.cell 1) ?_
    have hm2 := strE_le hm'
    have hO2 : w2.ownsRow w0.heap.size tP 5 (slV v) ks.length xs := owns_kp hO k2 fun q hq h => own_g (by rw [← hq, (show q = g from h)])
    have hN2 : w2.ownsRow w0.heap.size tN 2 (slV u) ns.length (ns.flatMap spanC) := owns_kp hN k2 fun q hq h => own_gN (by rw [← hq, (show q = g from h)])
    have hA2 : AllAt (fun q => w0.heap.size ≤ q ∧ some q ≠ (slV v).ownBlock ∧ some q ≠ (slV u).ownBlock) w2 ks xs := hA.kp k2 fun q _ h => ⟨h, fun e => by have : q = g := e; omega⟩
    have k02 := k1.trans k2
    have hsz1 : w0.heap.size ≤ w1.heap.size := k1.size
    have hsz2 : w1.heap.size ≤ w2.heap.size := k2.size
    -- the name
    obtain ⟨w3, h3, u', w4, h4, hN4, k4, hnew⟩ := push_span hN2 j m (by omega) (by omega)
    refine s_eff (some ⟨w2.heap.size, 0, none⟩, 1, 1) h3 ?_
    refine s_eff u' h4 ?_
    have hsz4 : w2.heap.size ≤ w4.heap.size := k4.size
    have hR4 : RdAt w4 g s m := k4.blk hR2 fun e => own_gN e
    have k04 : Kp (On g) w0 w4 := k02.then k4 fun q hq e => by have := (own_geN q e).1; omega
    have hO4 : w4.ownsRow w0.heap.size tP 5 (slV v) ks.length xs := owns_kp hO2 k4 fun q hq h => hne q hq h
    have hA4 : AllAt (fun q => w0.heap.size ≤ q ∧ some q ≠ (slV v).ownBlock ∧ some q ≠ (slV u').ownBlock) w4 ks xs := hA2.kp k4 fun q hq h => ⟨⟨h.1, h.2.1, fun e => by
      rcases hnew q e with h' | h'
      · exact h.2.2 h'
      · omega⟩, h.2.2⟩
    have hfl : ns.flatMap spanC ++ spanC (j, m) = (ns ++ [(j, m)]).flatMap spanC := by simp
    have hnl : (ns ++ [(j, m)]).length = ns.length + 1 := by simp
    rw [hfl, ← hnl] at hN4
    have hne4 : ∀ q, some q = (slV v).ownBlock → some q ≠ (slV u').ownBlock := fun q h e => by
      rcases hnew q e with h' | h'
      · exact hne q h h'
      · have := (own_ge q h).2; omega
    have own4 : some g ≠ (slV u').ownBlock := fun e => by
      rcases hnew g e with h' | h'
      · exact own_gN h'
      · have : g < w2.heap.size := Blk.lt hR2
        omega
    have own_ge4 : ∀ q, some q = (slV u').ownBlock → w0.heap.size ≤ q ∧ q < w4.heap.size := fun q hq => hN4.lt q hq.symm
    clear hA hA2 hO hO2 hN hN2 hR hR2 hnew
    -- the colon
    refine s_call (blanks_any hs' hm hR4) ?_
    rintro e w5 ⟨rfl, hR5, k5⟩
    refine ⟨(), rfl, ?_⟩
    have hb5 := bl_le s _ hm
    have hbg5 := bl_ge s m
    refine s_call (take_any 58 hs' hR5) ?_
    rintro e w6 ⟨rfl, hR6, k6⟩
    refine ⟨_, rfl, ?_⟩
    have k46 := k5.trans k6
    cases hT : takeB s (bl s m) 58 with
    | false =>
      refine sat_iteT.2 (s_leaf ?_)
      rw [if_neg (by decide)]
      rw [takeI_no hT] at hR6
      exact ⟨rfl, me_no (by rw [hE, mems_c hq hm' ((takeB_btF (by decide)).1 hT)]; rfl) hb5 hR6 (k04.trans k46)⟩
    | true =>
    refine sat_iteF.2 ?_
    rw [takeI_yes hT] at hR6
    have hlt5 := takeB_lt hT
    have hmv := mems_v hq hm' ((takeB_bt (by decide)).1 hT)
    refine s_call (blanks_any hs' hlt5 hR6) ?_
    rintro e w7 ⟨rfl, hR7, k7⟩
    refine ⟨(), rfl, ?_⟩
    have hb7 := bl_le s _ hlt5
    have hbg7 := bl_ge s (bl s m + 1)
    generalize hj' : bl s (bl s m + 1) = j' at *
    have k47 := k46.trans k7
    refine s_call (hV j' (by omega) hb7 w7 hR7) ?_
    rintro e w8 ⟨k, b, e1, na, ka, p', rfl, hp', hR8, k8, hp⟩
    refine ⟨((k, b, e1, na, ka, ()), (val s j').isSome, ()), rfl, ?_⟩
    have k48 := k47.trans k8
    refine s_alloc ?_
    have hb9 := Blk.new w8 (pc 0 0 0 (none, 0, 0) (none, 0, 0)) tP
    obtain ⟨w9, h9, hbk9, k9⟩ := storeP hb9 rfl k b e1 na ka
    refine s_effU h9 ?_
    have kc : Kp Off w8 w9 := (((Kp.refl (fun q => q = w8.heap.size) w8).alloc _).trans (k9.mono fun q _ h => h)).mono fun q hq h => by omega
    have hR9 : RdAt w9 g s p' := kc.blk hR8 (id : ¬ Off g)
    have k09 : Kp (On g) w0 w9 := (k04.trans k48).trans kc.off
    have hsz7 : w4.heap.size ≤ w7.heap.size := k47.size
    have hsz8 : w7.heap.size ≤ w8.heap.size := k8.size
    have hsz9 : w8.heap.size ≤ w9.heap.size := kc.size
    cases hv : val s j' with
    | none =>
      refine sat_iteT.2 (s_leaf ?_)
      rw [if_neg (by decide)]
      exact ⟨rfl, me_no (by rw [hE, hmv, hv]; rfl) hp' hR9 k09⟩
    | some p =>
    obtain ⟨rfl, hP⟩ := hp p hv
    rw [hv] at hmv
    simp only at hmv
    refine sat_iteF.2 ?_
    refine s_eff (k, b, e1, na, ka, ()) (loadP hbk9) ?_
    have hO9 : w9.ownsRow w0.heap.size tP 5 (slV v) ks.length xs := owns_kp (owns_kp hO4 k48 fun q hq h => own_g (by rw [← hq, (show q = g from h)])) kc fun q _ h => h
    have hN9 : w9.ownsRow w0.heap.size tN 2 (slV u') (ns ++ [(j, m)]).length ((ns ++ [(j, m)]).flatMap spanC) := owns_kp (owns_kp hN4 k48 fun q hq h => own4 (by rw [← hq, (show q = g from h)])) kc fun q _ h => h
    have hA9 : AllAt (fun q => w0.heap.size ≤ q ∧ some q ≠ (slV v).ownBlock ∧ some q ≠ (slV u').ownBlock) w9 ks xs :=
      (hA4.kp k48 fun q _ h => ⟨h, fun e => by have : q = g := e; omega⟩ : AllAt (fun q => w0.heap.size ≤ q ∧ some q ≠ (slV v).ownBlock ∧ some q ≠ (slV u').ownBlock) w8 ks xs).kp kc fun q _ h => ⟨h, fun e => e⟩
    have hP9 : PlAt (fun q => w0.heap.size ≤ q ∧ some q ≠ (slV v).ownBlock ∧ some q ≠ (slV u').ownBlock) w9 p (pc k b e1 na ka) :=
      hP.kp kc fun q _ h => ⟨⟨by omega, fun e => by have := (own_ge q e).2; omega, fun e => by have := (own_ge4 q e).2; omega⟩, fun e => e⟩
    have hv' := val_end hb7 hv
    obtain ⟨w10, h10, v', w11, h11, hO11, k11, hnew⟩ := push_place hO9 k b e1 na ka (by omega) (by omega)
    refine s_eff (some ⟨w9.heap.size, 0, none⟩, 1, 1) h10 ?_
    refine s_eff v' h11 ?_
    have hR11 : RdAt w11 g s p.e := k11.blk hR9 fun e => own_g e
    have k011 : Kp (On g) w0 w11 := k09.then k11 fun q hq e => by have := (own_ge q e).1; omega
    have hN11 : w11.ownsRow w0.heap.size tN 2 (slV u') (ns ++ [(j, m)]).length ((ns ++ [(j, m)]).flatMap spanC) := owns_kp hN9 k11 fun q hq h => hne4 q h hq
    have hne11 : ∀ q, some q = (slV v').ownBlock → some q ≠ (slV u').ownBlock := fun q h e => by
      rcases hnew q h with h' | h'
      · exact hne4 q h' e
      · have := (own_ge4 q e).2; omega
    have hA11 : AllAt (fun q => w0.heap.size ≤ q ∧ some q ≠ (slV v').ownBlock ∧ some q ≠ (slV u').ownBlock) w11 (ks ++ [p]) (xs ++ pc k b e1 na ka) :=
      (hA9.snoc hP9).kp k11 fun q hq h => ⟨⟨h.1, fun e => by
        rcases hnew q e with h' | h'
        · exact h.2.1 h'
        · omega, h.2.2⟩, h.2.1⟩
    have hlen5 : (ks ++ [p]).length = ks.length + 1 := by simp
    rw [← hlen5] at hO11
    have own11 : some g ≠ (slV v').ownBlock := fun e => by
      rcases hnew g e with h' | h'
      · exact own_g h'
      · have : g < w8.heap.size := Blk.lt hR8
        omega
    clear hA9 hP9 hO9 hN9 hR9
    refine s_call (blanks_any hs' hp' hR11) ?_
    rintro e w12 ⟨rfl, hR12, k12⟩
    refine ⟨(), rfl, ?_⟩
    have hb12 := bl_le s _ hp'
    have hbg12 := bl_ge s p.e
    refine s_call (take_any 125 hs' hR12) ?_
    rintro e w13 ⟨rfl, hR13, k13⟩
    refine ⟨_, rfl, ?_⟩
    have kk := k12.trans k13
    have keep : ∀ {w'}, Kp (On g) w11 w' → w'.ownsRow w0.heap.size tP 5 (slV v') (ks ++ [p]).length (xs ++ pc k b e1 na ka) ∧ w'.ownsRow w0.heap.size tN 2 (slV u') (ns ++ [(j, m)]).length ((ns ++ [(j, m)]).flatMap spanC) ∧
        AllAt (fun q => w0.heap.size ≤ q ∧ some q ≠ (slV v').ownBlock ∧ some q ≠ (slV u').ownBlock) w' (ks ++ [p]) (xs ++ pc k b e1 na ka) := fun {w'} k =>
      ⟨owns_kp hO11 k fun q hq h => own11 (by rw [← hq, (show q = g from h)]), owns_kp hN11 k fun q hq h => own4 (by rw [← hq, (show q = g from h)]), hA11.kp k fun q _ h => ⟨h, fun e => by have : q = g := e; omega⟩⟩
    cases hT1 : takeB s (bl s p.e) 125 with
    | true =>
      refine sat_iteT.2 (s_leaf ?_)
      rw [if_neg (by decide)]
      rw [takeI_yes hT1] at hR13
      obtain ⟨o, on, a⟩ := keep kk
      have hE2 : mems s i0 = some (ns ++ [(j, m)], ks ++ [p], bl s p.e + 1) := by rw [hE, hmv, if_pos ((takeB_bt (by decide)).1 hT1)]; rfl
      refine ⟨rfl, u', v', _, by rw [hE2]; rfl, takeB_lt hT1, hR13, k011.trans kk, fun x hx => ?_⟩
      rw [hE2] at hx; cases hx
      exact ⟨rfl, RowIn.own on fun q _ h => h, _, RowIn.own o fun q _ h => h, a.kp (Kp.refl Off w13) fun q _ h => ⟨h.1, fun e => e⟩⟩
    | false =>
      refine sat_iteF.2 ?_
      rw [takeI_no hT1] at hR13
      rw [if_neg ((takeB_btF (by decide)).1 hT1)] at hmv
      refine s_call (take_any 44 hs' hR13) ?_
      rintro e w14 ⟨rfl, hR14, k14⟩
      refine ⟨_, rfl, ?_⟩
      have kk2 := kk.trans k14
      cases hT2 : takeB s (bl s p.e) 44 with
      | false =>
        refine sat_iteT.2 (s_leaf ?_)
        rw [if_neg (by decide)]
        rw [takeI_no hT2] at hR14
        rw [if_neg ((takeB_btF (by decide)).1 hT2)] at hmv
        exact ⟨rfl, me_no (by rw [hE, hmv]; rfl) hb12 hR14 (k011.trans kk2)⟩
      | true =>
        refine sat_iteF.2 ?_
        rw [takeI_yes hT2] at hR14
        rw [if_pos ((takeB_bt (by decide)).1 hT2)] at hmv
        have hlt := takeB_lt hT2
        refine s_call (blanks_any hs' hlt hR14) ?_
        rintro e w15 ⟨rfl, hR15, k15⟩
        refine ⟨(), rfl, s_leaf ?_⟩
        rw [if_pos rfl]
        obtain ⟨o, on, a⟩ := keep (kk2.trans k15)
        have hb9 := bl_le s _ hlt
        have hbg9 := bl_ge s (bl s p.e + 1)
        refine ⟨s.size - bl s (bl s p.e + 1), (v', u', ()), rfl, by omega, bl s (bl s p.e + 1), ns ++ [(j, m)], ks ++ [p], _, v', u', rfl, rfl, by omega, hb9, by rw [hlen5]; omega, by rw [hlen5, hnl, hnk], ?_, o, on, hne11, a, hR15, k011.trans (kk2.trans k15)⟩
        rw [hE, hmv]
        cases mems s (bl s (bl s p.e + 1)) <;> simp
end Go.Proofs.YtkpnomdmnhhaoaaGreatDoor.Sr
namespace Go.Proofs.YtkpnomdmnhhaoaaGreatDoor.Sr
open Go Go.Proofs Go.Proofs.YtkpnomdmnhhaoaaGreatDoor.Rx Go.Proofs.YtkpnomdmnhhaoaaGreatDoor.Tr Go.Proofs.YtkpnomdmnhhaoaaGreatDoor.Pl

theorem val_str {s : ByteArray} {i : Nat} (h : bt s i = 34) : val s i = (strE s (i + 1)).map fun e => .mk 4 i e [] [] := by
  rw [val, dif_neg (by omega), dif_neg (by omega), if_pos h]
theorem val_num {s : ByteArray} {i : Nat} (h : numOk (bt s i) = true) : val s i = (numE s i).map fun e => .mk 3 i e [] [] := by
  have hh : bt s i = 45 ∨ (48 ≤ bt s i ∧ bt s i ≤ 57) := by
    simp only [numOk, Bool.or_eq_true, beq_iff_eq] at h
    exact h.imp id isDig_iff.1
  rw [val, dif_neg (by omega), dif_neg (by omega), if_neg (by omega), if_pos h]
theorem val_word {s : ByteArray} {i : Nat} (h1 : bt s i ≠ 123) (h2 : bt s i ≠ 91) (h3 : bt s i ≠ 34) (h4 : numOk (bt s i) = false) : val s i =
    if wordB s i nullW then some (.mk 0 i (i + 4) [] []) else if wordB s i falseW then some (.mk 1 i (i + 5) [] []) else if wordB s i trueW then some (.mk 2 i (i + 4) [] []) else none := by
  rw [val, dif_neg h1, dif_neg h2, if_neg h3, if_neg (by rw [h4]; decide)]

theorem s_allocE {P : Program} {Q : Nat → List Value → World → Prop} {w : World} {o : Obj} {k : Addr → T} (n : Nat) (hn : w.heap.size = n) (w' : World) (hw : w.alloc o = w') (h : sat P (k ⟨n, 0, none⟩) Q w') : sat P (.alloc o k) Q w := by
  subst hn; subst hw; exact h
theorem value_any {g : Nat} {s : ByteArray} (hs : s.size < 4294967295) : ∀ (n i : Nat), s.size + 1 - i ≤ n → i ≤ s.size → ValAt g s i := by
  intro n
  induction n with
  | zero => intro i h1 h2; omega
  | succ n ih =>
  intro i hn hi w hR
  have hs' : s.size < 4611686018427387904 := by omega
  have hV : ∀ j, i < j → j ≤ s.size → ValAt g s j := fun j h1 h2 => ih j (by omega) h2
  refine spec_reader_value.calls _ ?_
  unfold spec_reader_value.t
  have hg : g < w.heap.size := Blk.lt hR
  -- the two locals
  refine s_alloc (s_ptr ?_)
  have hb0 := Blk.new w (pc 0 0 0 (none, 0, 0) (none, 0, 0)) tP
  have ka0 : Kp Off w (w.alloc (.cells (pc 0 0 0 (none, 0, 0) (none, 0, 0)).toArray tP (0, 0))) := (Kp.refl Off w).alloc _
  have hR0 := ka0.blk hR (id : ¬ Off g)
  simp only [addr_add, Nat.zero_add]
  refine s_load (i : Int) (hR0.cell 1) ?_
  obtain ⟨wa, hwa⟩ : ∃ x, x = (w.alloc (.cells (pc 0 0 0 (none, 0, 0) (none, 0, 0)).toArray tP (0, 0))).alloc (.cells (pc 0 0 0 (none, 0, 0) (none, 0, 0)).toArray tP (0, 0)) := ⟨_, rfl⟩
  have hb3 := Blk.new (w.alloc (.cells (pc 0 0 0 (none, 0, 0) (none, 0, 0)).toArray tP (0, 0))) (pc 0 0 0 (none, 0, 0) (none, 0, 0)) tP
  have hb0' := hb0.alloc (.cells (pc 0 0 0 (none, 0, 0) (none, 0, 0)).toArray tP (0, 0))
  have ka1 := ka0.alloc (.cells (pc 0 0 0 (none, 0, 0) (none, 0, 0)).toArray tP (0, 0))
  have hz1 : (w.alloc (.cells (pc 0 0 0 (none, 0, 0) (none, 0, 0)).toArray tP (0, 0))).heap.size = w.heap.size + 1 := by simp
  have hza : wa.heap.size = w.heap.size + 2 := by rw [hwa]; simp
  rw [hz1] at hb3
  rw [← hwa] at hb3 hb0' ka1
  refine s_allocE (w.heap.size + 1) hz1 wa hwa.symm ?_
  have hRa : RdAt wa g s i := ka1.blk hR (id : ¬ Off g)
  clear hR0 ka0 hb0 hwa hz1
  obtain ⟨w1, h1, hc1, k1⟩ := storeP hb3 rfl 0 (i : Int) 0 (none, 0, 0) (none, 0, 0)
  refine s_effU h1 ?_
  have hR1 : RdAt w1 g s i := k1.blk hRa fun e => by have : g = w.heap.size + 1 := e; omega
  have hd1 : Blk w1 w.heap.size (pc 0 0 0 (none, 0, 0) (none, 0, 0)) tP := k1.blk hb0' fun e => by have : w.heap.size = w.heap.size + 1 := e; omega
  have k01 : Kp (On g) w w1 := ka1.off.then k1 fun q hq e => by have : q = w.heap.size + 1 := e; omega
  have hz1 : w.heap.size + 2 ≤ w1.heap.size := by have := k1.size; omega
  clear hb3 hb0' k1 ka1 hRa h1
  refine s_call (here_any hR1) ?_
  rintro e w2 ⟨rfl, hR2, k2⟩
  refine ⟨_, rfl, ?_⟩
  have ne0 : ¬ On g w.heap.size := fun e => by have : w.heap.size = g := e; omega
  have ne3 : ¬ On g (w.heap.size + 1) := fun e => by have : w.heap.size + 1 = g := e; omega
  have hc2 := k2.blk hc1 ne3
  have hd2 := k2.blk hd1 ne0
  have k02 := k01.trans k2
  have hz2 : w.heap.size + 2 ≤ w2.heap.size := by have := k2.size; omega
  clear hc1 hd1 hR1 k01 k2
  -- how it ends
  have fin : ∀ {w3 w4 : World} {k b e : Int} {na ka : Sl} {r : Option PT} {j : Nat}, j ≤ s.size → RdAt w3 g s j → Kp (On g) w w3 → w.heap.size + 2 ≤ w3.heap.size → (∀ p, r = some p → j = p.e ∧ PlAt (fun q => w.heap.size ≤ q ∧ q ≠ w.heap.size ∧ q ≠ w.heap.size + 1) w3 p (pc k b e na ka)) →
      Kp (fun q => q = w.heap.size + 1 ∨ q = w.heap.size) w3 w4 → ValPost g s w r (.returned (retVal [.agg (pc k b e na ka).toArray, .bool r.isSome])) w4 := by
    intro w3 w4 k b e na ka r j hj hR3 k3 hz hp k4
    refine ⟨k, b, e, na, ka, j, rfl, hj, k4.blk hR3 (fun e => by omega), k3.then k4 (fun q hq e => by omega), fun p hpp => ?_⟩
    obtain ⟨h1, h2⟩ := hp p hpp
    exact ⟨h1, h2.kp k4 fun q _ h => ⟨h.1, fun e => by omega⟩⟩
  have ne : w.heap.size ≠ w.heap.size + 1 := by omega
  refine s_iteE (fun hc => ?_) (fun hn123 => ?_)
  · -- an object
    have hlt : i < s.size := lt_of_bt (by omega)
    refine s_store (hc2.cell 0) (hc2.free 0) ?_
    have hc3 : Blk _ (w.heap.size + 1) (pc 6 i 0 (none, 0, 0) (none, 0, 0)) tP := hc2.set 0 (.int .i64 6)
    have hd3 := hd2.setOther (a := ⟨w.heap.size + 1, 0, none⟩) (fun e => ne e.symm) (.int .i64 6)
    have hR3 : RdAt _ g s i := Blk.setOther hR2 (a := ⟨w.heap.size + 1, 0, none⟩) (fun e => ne3 e) (.int .i64 6)
    have k03 := k02.setNew (a := ⟨w.heap.size + 1, 0, none⟩) (by simp) (.int .i64 6)
    have hz3 : w.heap.size + 2 ≤ (w2.setCell ⟨w.heap.size + 1, 0, none⟩ (.int .i64 6)).heap.size := by simpa [World.setCell] using hz2
    refine s_call (members_any hs hlt hR3 hV) ?_
    rintro e w4 ⟨na, ka, j, rfl, hj, hR4, k4, hp⟩
    refine ⟨(na, ka, (mems0 s i).isSome, ()), rfl, ?_⟩
    have hc4 := k4.blk hc3 ne3
    have hd4 := k4.blk hd3 ne0
    have k04 := k03.trans k4
    have hz4 : w.heap.size + 2 ≤ w4.heap.size := Nat.le_trans hz3 k4.size
    refine s_store (hc4.cell 3) (hc4.free 3) ?_
    have hc5 : Blk _ (w.heap.size + 1) (pc 6 i 0 na (none, 0, 0)) tP := hc4.set 3 (slV na)
    have hd5 := hd4.setOther (a := ⟨w.heap.size + 1, 3, none⟩) (fun e => ne e.symm) (slV na)
    have hR5 : RdAt _ g s j := Blk.setOther hR4 (a := ⟨w.heap.size + 1, 3, none⟩) (fun e => ne3 e) (slV na)
    have k45 := (Kp.refl (fun q => q = w.heap.size + 1 ∨ q = w.heap.size) w4).set (a := ⟨w.heap.size + 1, 3, none⟩) (Or.inl rfl) (slV na)
    refine s_store (hc5.cell 4) (hc5.free 4) ?_
    have hc6 : Blk _ (w.heap.size + 1) (pc 6 i 0 na ka) tP := hc5.set 4 (slV ka)
    have hd6 := hd5.setOther (a := ⟨w.heap.size + 1, 4, none⟩) (fun e => ne e.symm) (slV ka)
    have hR6 : RdAt _ g s j := Blk.setOther hR5 (a := ⟨w.heap.size + 1, 4, none⟩) (fun e => ne3 e) (slV ka)
    have k46 := k45.set (a := ⟨w.heap.size + 1, 4, none⟩) (Or.inl rfl) (slV ka)
    refine v_end hR6 hc6 hd6 rfl ne fun w7 k7 => ⟨rfl, ?_⟩
    have e1 : (mems0 s i).isSome = (val s i).isSome := by rw [val_obj hc]; simp
    rw [e1]
    refine fin hj hR4 k04 hz4 (fun p hpp => ?_) (k46.trans k7)
    rw [val_obj hc] at hpp
    cases hm : mems0 s i with
    | none => rw [hm] at hpp; cases hpp
    | some x =>
      rw [hm] at hpp; cases hpp
      obtain ⟨rfl, a, xs, b, c⟩ := hp x hm
      have up : ∀ q, q < w4.heap.size → (w2.setCell ⟨w.heap.size + 1, 0, none⟩ (.int .i64 6)).heap.size ≤ q → (w.heap.size ≤ q ∧ q ≠ w.heap.size ∧ q ≠ w.heap.size + 1) ∧ ¬ Off q := fun q _ h => ⟨by omega, id⟩
      exact ⟨rfl, PlAt.mk' (a.kp (Kp.refl Off w4) up) (b.kp (Kp.refl Off w4) up) (c.kp (Kp.refl Off w4) up)⟩
  refine s_iteE (fun hc => ?_) (fun hn91 => ?_)
  · -- an array
    have hlt : i < s.size := lt_of_bt (by omega)
    refine s_store (hc2.cell 0) (hc2.free 0) ?_
    have hc3 : Blk _ (w.heap.size + 1) (pc 5 i 0 (none, 0, 0) (none, 0, 0)) tP := hc2.set 0 (.int .i64 5)
    have hd3 := hd2.setOther (a := ⟨w.heap.size + 1, 0, none⟩) (fun e => ne e.symm) (.int .i64 5)
    have hR3 : RdAt _ g s i := Blk.setOther hR2 (a := ⟨w.heap.size + 1, 0, none⟩) (fun e => ne3 e) (.int .i64 5)
    have k03 := k02.setNew (a := ⟨w.heap.size + 1, 0, none⟩) (by simp) (.int .i64 5)
    have hz3 : w.heap.size + 2 ≤ (w2.setCell ⟨w.heap.size + 1, 0, none⟩ (.int .i64 5)).heap.size := by simpa [World.setCell] using hz2
    refine s_call (elements_any hs hlt hR3 hV) ?_
    rintro e w4 ⟨ka, j, rfl, hj, hR4, k4, hp⟩
    refine ⟨(ka, (elems0 s i).isSome, ()), rfl, ?_⟩
    have hc4 := k4.blk hc3 ne3
    have hd4 := k4.blk hd3 ne0
    have k04 := k03.trans k4
    have hz4 : w.heap.size + 2 ≤ w4.heap.size := Nat.le_trans hz3 k4.size
    refine s_store (hc4.cell 4) (hc4.free 4) ?_
    have hc6 : Blk _ (w.heap.size + 1) (pc 5 i 0 (none, 0, 0) ka) tP := hc4.set 4 (slV ka)
    have hd6 := hd4.setOther (a := ⟨w.heap.size + 1, 4, none⟩) (fun e => ne e.symm) (slV ka)
    have hR6 : RdAt _ g s j := Blk.setOther hR4 (a := ⟨w.heap.size + 1, 4, none⟩) (fun e => ne3 e) (slV ka)
    have k46 := (Kp.refl (fun q => q = w.heap.size + 1 ∨ q = w.heap.size) w4).set (a := ⟨w.heap.size + 1, 4, none⟩) (Or.inl rfl) (slV ka)
    refine v_end hR6 hc6 hd6 rfl ne fun w7 k7 => ⟨rfl, ?_⟩
    have e1 : (elems0 s i).isSome = (val s i).isSome := by rw [val_arr hc]; simp
    rw [e1]
    refine fin hj hR4 k04 hz4 (fun p hpp => ?_) (k46.trans k7)
    rw [val_arr hc] at hpp
    cases hm : elems0 s i with
    | none => rw [hm] at hpp; cases hpp
    | some x =>
      rw [hm] at hpp; cases hpp
      obtain ⟨rfl, xs, b, c⟩ := hp x hm
      have up : ∀ q, q < w4.heap.size → (w2.setCell ⟨w.heap.size + 1, 0, none⟩ (.int .i64 5)).heap.size ≤ q → (w.heap.size ≤ q ∧ q ≠ w.heap.size ∧ q ≠ w.heap.size + 1) ∧ ¬ Off q := fun q _ h => ⟨by omega, id⟩
      exact ⟨rfl, PlAt.mk' RowIn.nil (b.kp (Kp.refl Off w4) up) (c.kp (Kp.refl Off w4) up)⟩
  -- what has neither names nor elements
  have leaf : ∀ {w3 : World} {k : Nat} {r : Option PT} {j : Nat}, Blk w3 (w.heap.size + 1) (pc k i 0 (none, 0, 0) (none, 0, 0)) tP → Blk w3 w.heap.size (pc 0 0 0 (none, 0, 0) (none, 0, 0)) tP → j ≤ s.size → RdAt w3 g s j → Kp (On g) w w3 → w.heap.size + 2 ≤ w3.heap.size →
      (∀ p, r = some p → j = p.e ∧ p = .mk k i j [] []) → ∀ w4, Kp (fun q => q = w.heap.size + 1 ∨ q = w.heap.size) w3 w4 → ValPost g s w r (.returned (retVal [.agg (pc k i j (none, 0, 0) (none, 0, 0)).toArray, .bool r.isSome])) w4 := by
    intro w3 k r j _ _ hj hR3 k3 hz hp w4 k4
    refine fin hj hR3 k3 hz (fun p hpp => ?_) k4
    obtain ⟨h1, h2⟩ := hp p hpp
    exact ⟨h1, by rw [h2]; exact PlAt.leaf⟩
  have kind : ∀ (k : Nat), Blk (w2.setCell ⟨w.heap.size + 1, 0, none⟩ (.int .i64 (k : Int))) (w.heap.size + 1) (pc k i 0 (none, 0, 0) (none, 0, 0)) tP ∧ Blk (w2.setCell ⟨w.heap.size + 1, 0, none⟩ (.int .i64 (k : Int))) w.heap.size (pc 0 0 0 (none, 0, 0) (none, 0, 0)) tP ∧
      RdAt (w2.setCell ⟨w.heap.size + 1, 0, none⟩ (.int .i64 (k : Int))) g s i ∧ Kp (On g) w (w2.setCell ⟨w.heap.size + 1, 0, none⟩ (.int .i64 (k : Int))) ∧ w.heap.size + 2 ≤ (w2.setCell ⟨w.heap.size + 1, 0, none⟩ (.int .i64 (k : Int))).heap.size := fun k =>
    ⟨hc2.set 0 (.int .i64 k), hd2.setOther (a := ⟨w.heap.size + 1, 0, none⟩) (fun e => ne e.symm) (.int .i64 k), Blk.setOther hR2 (a := ⟨w.heap.size + 1, 0, none⟩) (fun e => ne3 e) (.int .i64 k),
      k02.setNew (a := ⟨w.heap.size + 1, 0, none⟩) (by simp) (.int .i64 k), by simpa [World.setCell] using hz2⟩
  refine s_iteE (fun hc => ?_) (fun hn34 => ?_)
  · -- a string
    have hlt : i < s.size := lt_of_bt (by omega)
    refine s_store (hc2.cell 0) (hc2.free 0) ?_
    obtain ⟨hc3, hd3, hR3, k03, hz3⟩ := kind 4
    refine s_call (quoted_any hs' hlt hR3) ?_
    rintro e w4 ⟨j, rfl, hm, hj, hR4, k4⟩
    refine ⟨_, rfl, ?_⟩
    refine v_end hR4 (k4.blk hc3 ne3) (k4.blk hd3 ne0) rfl ne fun w7 k7 => ⟨rfl, ?_⟩
    have e1 : (strE s (i + 1)).isSome = (val s i).isSome := by rw [val_str hc]; simp
    rw [e1]
    refine leaf (k := 4) (k4.blk hc3 ne3) (k4.blk hd3 ne0) hj hR4 (k03.trans k4) (Nat.le_trans hz3 k4.size) (fun p hpp => ?_) w7 k7
    rw [val_str hc] at hpp
    cases hm2 : strE s (i + 1) with
    | none => rw [hm2] at hpp; cases hpp
    | some x => rw [hm2] at hpp; cases hpp; have := hm x hm2; subst this; exact ⟨rfl, rfl⟩
  -- a number, a word
  refine s_cut (fun x w' => x = (numOk (bt s i), ()) ∧ w2 = w') ?_ ?_
  · refine s_iteE (fun h => s_leaf ?_) (fun h => s_iteD (fun h' => s_leaf ?_) (fun h' => s_leaf ?_))
    · rw [if_pos rfl]; exact ⟨(true, ()), rfl, by rw [h]; rfl, rfl⟩
    · rw [if_pos rfl]
      refine ⟨(decide (bt s i ≤ 57), ()), rfl, ?_, rfl⟩
      have : numOk (bt s i) = decide (bt s i ≤ 57) := by simp [numOk, isDig, h, h']
      rw [this]; rfl
    · rw [if_pos rfl]
      refine ⟨(false, ()), rfl, ?_, rfl⟩
      have : numOk (bt s i) = false := by simp [numOk, isDig, h, h']
      rw [this]; rfl
  rintro x w2' ⟨rfl, rfl⟩
  simp only [spec_reader_value.t1]
  cases hN : numOk (bt s i) with
  | true =>
    refine sat_iteT.2 (s_store (hc2.cell 0) (hc2.free 0) ?_)
    obtain ⟨hc3, hd3, hR3, k03, hz3⟩ := kind 3
    refine s_call (number_any hs' hi hR3) ?_
    rintro e w4 ⟨j, rfl, hm, hj, hR4, k4⟩
    refine ⟨_, rfl, ?_⟩
    refine v_end hR4 (k4.blk hc3 ne3) (k4.blk hd3 ne0) rfl ne fun w7 k7 => ⟨rfl, ?_⟩
    have e1 : (numE s i).isSome = (val s i).isSome := by rw [val_num hN]; simp
    rw [e1]
    refine leaf (k := 3) (k4.blk hc3 ne3) (k4.blk hd3 ne0) hj hR4 (k03.trans k4) (Nat.le_trans hz3 k4.size) (fun p hpp => ?_) w7 k7
    rw [val_num hN] at hpp
    cases hm2 : numE s i with
    | none => rw [hm2] at hpp; cases hpp
    | some x => rw [hm2] at hpp; cases hpp; have := hm x hm2; subst this; exact ⟨rfl, rfl⟩
  | false =>
    have hW := val_word hn123 hn91 hn34 hN
    have word : ∀ {w3 : World} {k : Nat} {j : Nat}, RdAt w3 g s j → Kp (On g) w2 w3 → j ≤ s.size → val s i = some (.mk k i j [] []) →
        sat Tryz.prog (.store (Addr.add ⟨w.heap.size + 1, 0, none⟩ 0) (Value.int IntKind.i64 (k : Int)) <|
          .ptr (some ⟨g, 0, none⟩) fun (z22 : Addr) =>
          .load (Addr.add z22 1) (.int .i64) fun (i23 : Int) =>
          .store (Addr.add ⟨w.heap.size + 1, 0, none⟩ 2) (Value.int IntKind.i64 i23) <|
          .eff (Instr.loadAt tP (Value.pointer (some ⟨w.heap.size + 1, 0, none⟩))) (.agg (.cons (.int .i64) (.cons (.int .i64) (.cons (.int .i64) (.cons .slice (.cons .slice .nil)))))) fun (z24 : (Int × (Int × (Int × (((Option Addr) × (Nat × Nat)) × (((Option Addr) × (Nat × Nat)) × PUnit)))))) =>
          .effU (Instr.storeAt tP (Value.pointer (some ⟨w.heap.size, 0, none⟩)) (Value.agg #[(Value.int IntKind.i64 (z24).1), (Value.int IntKind.i64 ((z24).2).1), (Value.int IntKind.i64 (((z24).2).2).1), (Value.slice (((((z24).2).2).2).1).1 ((((((z24).2).2).2).1).2).1 ((((((z24).2).2).2).1).2).2), (Value.slice ((((((z24).2).2).2).2).1).1 (((((((z24).2).2).2).2).1).2).1 (((((((z24).2).2).2).2).1).2).2)])) <|
          .effS (Instr.loadAt tP (Value.pointer (some ⟨w.heap.size, 0, none⟩))) (.agg (.cons (.int .i64) (.cons (.int .i64) (.cons (.int .i64) (.cons .slice (.cons .slice .nil)))))) fun (z25 : (Int × (Int × (Int × (((Option Addr) × (Nat × Nat)) × (((Option Addr) × (Nat × Nat)) × PUnit)))))) =>
          .leaf 0 [(Value.agg #[(Value.int IntKind.i64 (z25).1), (Value.int IntKind.i64 ((z25).2).1), (Value.int IntKind.i64 (((z25).2).2).1), (Value.slice (((((z25).2).2).2).1).1 ((((((z25).2).2).2).1).2).1 ((((((z25).2).2).2).1).2).2), (Value.slice ((((((z25).2).2).2).2).1).1 (((((((z25).2).2).2).2).1).2).1 (((((((z25).2).2).2).2).1).2).2)]), (Value.bool true)])
          (fun l vs w' => l = 0 ∧ ValPost g s w (val s i) (.returned (retVal vs)) w') w3 := by
      intro w3 k j hR3 k3 hj hv
      have hc3 := k3.blk hc2 ne3
      have hd3 := k3.blk hd2 ne0
      simp only [addr_add, Nat.zero_add]
      refine s_store (hc3.cell 0) (hc3.free 0) ?_
      have hc4 : Blk _ (w.heap.size + 1) (pc k i 0 (none, 0, 0) (none, 0, 0)) tP := hc3.set 0 (.int .i64 k)
      have hd4 := hd3.setOther (a := ⟨w.heap.size + 1, 0, none⟩) (fun e => ne e.symm) (.int .i64 (k : Int))
      have hR4 : RdAt _ g s j := Blk.setOther hR3 (a := ⟨w.heap.size + 1, 0, none⟩) (fun e => ne3 e) (.int .i64 (k : Int))
      have k04 := (k02.trans k3).setNew (a := ⟨w.heap.size + 1, 0, none⟩) (by simp) (.int .i64 (k : Int))
      refine v_end hR4 hc4 hd4 rfl ne fun w7 k7 => ⟨rfl, ?_⟩
      have := leaf (k := k) (r := val s i) hc4 hd4 hj hR4 k04 (by have := k3.size; simp [World.setCell]; omega) (fun p hpp => by rw [hv] at hpp; cases hpp; exact ⟨rfl, rfl⟩) w7 k7
      rw [hv] at this ⊢
      exact this
    refine sat_iteF.2 ?_
    refine s_call (word_any nullW hs' (by decide) hi hR2) ?_
    rintro e w3 ⟨rfl, hR3, k3⟩
    refine ⟨_, rfl, ?_⟩
    cases h0 : wordB s i nullW with
    | true =>
      rw [h0, if_pos rfl] at hR3 hW
      exact sat_iteT.2 (word (k := 0) hR3 k3 (wordB_lt h0) hW)
    | false =>
    rw [h0, if_neg (by decide)] at hR3 hW
    refine sat_iteF.2 (s_call (word_any falseW hs' (by decide) hi hR3) ?_)
    rintro e w4 ⟨rfl, hR4, k4⟩
    refine ⟨_, rfl, ?_⟩
    have k24 := k3.trans k4
    cases h1 : wordB s i falseW with
    | true =>
      rw [h1, if_pos rfl] at hR4 hW
      exact sat_iteT.2 (word (k := 1) hR4 k24 (wordB_lt h1) hW)
    | false =>
    rw [h1, if_neg (by decide)] at hR4 hW
    refine sat_iteF.2 (s_call (word_any trueW hs' (by decide) hi hR4) ?_)
    rintro e w5 ⟨rfl, hR5, k5⟩
    refine ⟨_, rfl, ?_⟩
    have k25 := k24.trans k5
    cases h2 : wordB s i trueW with
    | true =>
      rw [h2, if_pos rfl] at hR5 hW
      exact sat_iteT.2 (word (k := 2) hR5 k25 (wordB_lt h2) hW)
    | false =>
    rw [h2, if_neg (by decide)] at hR5 hW
    refine sat_iteF.2 ?_
    have hc5 := k25.blk hc2 ne3
    have hd5 := k25.blk hd2 ne0
    refine v_end hR5 hc5 hd5 rfl ne fun w7 k7 => ⟨rfl, ?_⟩
    have := leaf (k := 0) (r := val s i) hc5 hd5 hi hR5 (k02.trans k25) (by have := k25.size; omega) (fun p hpp => by rw [hW] at hpp; cases hpp) w7 k7
    rw [hW] at this ⊢
    exact this
theorem value_at {g : Nat} {s : ByteArray} (hs : s.size < 4294967295) {i : Nat} (hi : i ≤ s.size) : ValAt g s i := value_any hs _ i (Nat.le_refl _) hi
end Go.Proofs.YtkpnomdmnhhaoaaGreatDoor.Sr
namespace Go.Proofs.YtkpnomdmnhhaoaaGreatDoor.Sr
open Go Go.Proofs Go.Proofs.YtkpnomdmnhhaoaaGreatDoor.Rx Go.Proofs.YtkpnomdmnhhaoaaGreatDoor.Tr Go.Proofs.YtkpnomdmnhhaoaaGreatDoor.Pl

abbrev zp : List Value := pc 0 0 0 (none, 0, 0) (none, 0, 0)
/-- A place that is handed on: loaded, laid into the result's cells, loaded again. -/
theorem p_yes {w : World} {Q : Nat → List Value → World → Prop} {z0 z3 : Nat} {k b e : Int} {na ka : Sl} {c0 : List Value} (h3 : Blk w z3 (pc k b e na ka) tP) (h0 : Blk w z0 c0 tP) (hl : c0.length = 5)
    (hQ : ∀ w', Kp (On z0) w w' → Q 0 [.agg (pc k b e na ka).toArray, .bool true] w') :
    sat Tryz.prog (.eff (Instr.loadAt tP (Value.pointer (some ⟨z3, 0, none⟩))) (.agg (.cons (.int .i64) (.cons (.int .i64) (.cons (.int .i64) (.cons .slice (.cons .slice .nil)))))) fun (z24 : (Int × (Int × (Int × (((Option Addr) × (Nat × Nat)) × (((Option Addr) × (Nat × Nat)) × PUnit)))))) =>
      .effU (Instr.storeAt tP (Value.pointer (some ⟨z0, 0, none⟩)) (Value.agg #[(Value.int IntKind.i64 (z24).1), (Value.int IntKind.i64 ((z24).2).1), (Value.int IntKind.i64 (((z24).2).2).1), (Value.slice (((((z24).2).2).2).1).1 ((((((z24).2).2).2).1).2).1 ((((((z24).2).2).2).1).2).2), (Value.slice ((((((z24).2).2).2).2).1).1 (((((((z24).2).2).2).2).1).2).1 (((((((z24).2).2).2).2).1).2).2)])) <|
      .effS (Instr.loadAt tP (Value.pointer (some ⟨z0, 0, none⟩))) (.agg (.cons (.int .i64) (.cons (.int .i64) (.cons (.int .i64) (.cons .slice (.cons .slice .nil)))))) fun (z25 : (Int × (Int × (Int × (((Option Addr) × (Nat × Nat)) × (((Option Addr) × (Nat × Nat)) × PUnit)))))) =>
      .leaf 0 [(Value.agg #[(Value.int IntKind.i64 (z25).1), (Value.int IntKind.i64 ((z25).2).1), (Value.int IntKind.i64 (((z25).2).2).1), (Value.slice (((((z25).2).2).2).1).1 ((((((z25).2).2).2).1).2).1 ((((((z25).2).2).2).1).2).2), (Value.slice ((((((z25).2).2).2).2).1).1 (((((((z25).2).2).2).2).1).2).1 (((((((z25).2).2).2).2).1).2).2)]), (Value.bool true)]) Q w := by
  refine s_eff (k, b, e, na, ka, ()) (loadP h3) ?_
  obtain ⟨w2, h4, h5, h6⟩ := storeP h0 hl k b e na ka
  refine s_effU h4 ?_
  exact s_effS (k, b, e, na, ka, ()) (loadP h5) (s_leaf (hQ w2 h6))
theorem p_no {w : World} {Q : Nat → List Value → World → Prop} {z0 : Nat} {c0 : List Value} (h0 : Blk w z0 c0 tP) (hl : c0.length = 5)
    (hQ : ∀ w', Kp (On z0) w w' → Q 0 [.agg zp.toArray, .bool false] w') :
    sat Tryz.prog (.effU (Instr.storeAt tP (Value.pointer (some ⟨z0, 0, none⟩)) (Value.agg #[(Value.int IntKind.i64 (0 : Int)), (Value.int IntKind.i64 (0 : Int)), (Value.int IntKind.i64 (0 : Int)), (Value.slice none 0 0), (Value.slice none 0 0)])) <|
      .effS (Instr.loadAt tP (Value.pointer (some ⟨z0, 0, none⟩))) (.agg (.cons (.int .i64) (.cons (.int .i64) (.cons (.int .i64) (.cons .slice (.cons .slice .nil)))))) fun (z25 : (Int × (Int × (Int × (((Option Addr) × (Nat × Nat)) × (((Option Addr) × (Nat × Nat)) × PUnit)))))) =>
      .leaf 0 [(Value.agg #[(Value.int IntKind.i64 (z25).1), (Value.int IntKind.i64 ((z25).2).1), (Value.int IntKind.i64 (((z25).2).2).1), (Value.slice (((((z25).2).2).2).1).1 ((((((z25).2).2).2).1).2).1 ((((((z25).2).2).2).1).2).2), (Value.slice ((((((z25).2).2).2).2).1).1 (((((((z25).2).2).2).2).1).2).1 (((((((z25).2).2).2).2).1).2).2)]), (Value.bool false)]) Q w := by
  obtain ⟨w2, h4, h5, h6⟩ := storeP h0 hl 0 0 0 (none, 0, 0) (none, 0, 0)
  refine s_effU h4 ?_
  exact s_effS ((0 : Int), (0 : Int), (0 : Int), (none, 0, 0), (none, 0, 0), ()) (loadP h5) (s_leaf (hQ w2 h6))

/-- What a function that gives a place says. -/
def PlPost (w : World) (r : Option PT) (e : Ending) (w' : World) : Prop :=
  ∃ (k b e1 : Int) (na ka : Sl), e = .returned (.tuple #[.agg (pc k b e1 na ka).toArray, .bool r.isSome]) ∧ Kp Off w w' ∧ ∀ p, r = some p → PlAt (fun q => w.heap.size ≤ q) w' p (pc k b e1 na ka)
/-- The value that a JSON text is. -/
def places (s : ByteArray) : Option PT := (val s (bl s 0)).bind fun p => if bl s p.e = s.size then some p else none

/-- How both begin: the result's cells, and the reader's. -/
theorem r_new {w : World} (s : ByteArray) : ∃ wr, wr = (w.alloc (.cells zp.toArray tP (0, 0))).alloc (.cells #[.string (ByteArray.mk #[]), .int .i64 0] 80 (0, 0)) ∧
    (w.alloc (.cells zp.toArray tP (0, 0))).heap.size = w.heap.size + 1 ∧
    ∃ w1, (Instr.storeAt 80 (.pointer (some ⟨w.heap.size + 1, 0, none⟩)) (.agg #[.string s, .int .i64 0])).run Tryz.prog wr = .ok () w1 ∧ RdAt w1 (w.heap.size + 1) s 0 ∧ Blk w1 w.heap.size zp tP ∧ Kp Off w w1 ∧ w.heap.size + 2 ≤ w1.heap.size := by
  refine ⟨_, rfl, by simp, ?_⟩
  have hb0 := (Blk.new w zp tP).alloc (.cells #[.string (ByteArray.mk #[]), .int .i64 0] 80 (0, 0))
  have hbr := Blk.new (w.alloc (.cells zp.toArray tP (0, 0))) [.string (ByteArray.mk #[]), .int .i64 0] 80
  have hz : (w.alloc (.cells zp.toArray tP (0, 0))).heap.size = w.heap.size + 1 := by simp
  rw [hz] at hbr
  obtain ⟨w1, h1, h2, h3⟩ := storeAt_run (P := Tryz.prog) (t := 80) [.string s, .int .i64 (0 : Nat)] hbr (info_some (by kernel_rfl)) (by kernel_rfl) rfl rfl
  refine ⟨w1, h1, h2, h3.blk hb0 (fun e => by have : w.heap.size = w.heap.size + 1 := e; omega), ?_, ?_⟩
  · exact (((Kp.refl Off w).alloc _).alloc _).then h3 fun q hq e => by have : q = w.heap.size + 1 := e; omega
  · have := h3.size; simp at this; omega

theorem places_any {s : ByteArray} {w : World} (hs : s.size < 4294967295) : Calls Tryz.prog 25 #[.string s] w (PlPost w (places s)) := by
  have hs' : s.size < 4611686018427387904 := by omega
  refine spec_Places.calls _ ?_
  unfold spec_Places.t
  obtain ⟨wr, hwr, hz, w1, h1, hR1, hd1, k1, hz1⟩ := r_new (w := w) s
  refine s_alloc (s_allocE (w.heap.size + 1) hz wr hwr.symm (s_effU h1 ?_))
  have ne0 : ¬ On (w.heap.size + 1) w.heap.size := fun e => by have : w.heap.size = w.heap.size + 1 := e; omega
  refine s_call (blanks_any hs' (Nat.zero_le _) hR1) ?_
  rintro e w2 ⟨rfl, hR2, k2⟩
  refine ⟨(), rfl, ?_⟩
  have hb2 := bl_le s 0 (Nat.zero_le _)
  refine s_call (value_at hs hb2 w2 hR2) ?_
  rintro e w3 ⟨k, b, e1, na, ka, j, rfl, hj, hR3, k3, hp⟩
  refine ⟨((k, b, e1, na, ka, ()), (val s (bl s 0)).isSome, ()), rfl, ?_⟩
  have k13 := k2.trans k3
  have hd3 := k13.blk hd1 ne0
  have k03 : Kp Off w w3 := k1.then k13 fun q hq e => by have : q = w.heap.size + 1 := e; omega
  have hz3 : w.heap.size + 2 ≤ w3.heap.size := Nat.le_trans hz1 k13.size
  have hz2 : w.heap.size + 2 ≤ w2.heap.size := Nat.le_trans hz1 k2.size
  -- the copy
  refine s_alloc ?_
  obtain ⟨w4, h4, hc4, k4⟩ := storeP (Blk.new w3 zp tP) rfl k b e1 na ka
  refine s_effU h4 ?_
  have kc : Kp Off w3 w4 := (((Kp.refl (fun q => q = w3.heap.size) w3).alloc _).trans (k4.mono fun q _ h => h)).mono fun q hq h => by omega
  have hd4 := kc.blk hd3 (id : ¬ Off w.heap.size)
  have hR4 : RdAt w4 (w.heap.size + 1) s j := kc.blk hR3 (id : ¬ Off (w.heap.size + 1))
  have k04 := k03.trans kc
  have up : ∀ q, q < w3.heap.size → w2.heap.size ≤ q → (w.heap.size ≤ q ∧ q ≠ w.heap.size ∧ q ≠ w.heap.size + 1) ∧ ¬ Off q := fun q _ h => ⟨by omega, id⟩
  have fin : ∀ {w5 w6 : World} {r : Option PT} {k b e1 : Int} {na ka : Sl} {x : Bool}, x = r.isSome → Kp (On (w.heap.size + 1)) w4 w5 → Kp (On w.heap.size) w5 w6 → (∀ p, r = some p → PlAt (fun q => w.heap.size ≤ q ∧ q ≠ w.heap.size ∧ q ≠ w.heap.size + 1) w4 p (pc k b e1 na ka)) →
      PlPost w r (.returned (retVal [.agg (pc k b e1 na ka).toArray, .bool x])) w6 := by
    rintro w5 w6 r k b e1 na ka x rfl k5 k6 hp
    refine ⟨k, b, e1, na, ka, rfl, (k04.then k5 fun q hq e => by have : q = w.heap.size + 1 := e; omega).then k6 fun q hq e => by have : q = w.heap.size := e; omega, fun p hpp => ?_⟩
    have a := (hp p hpp).kp (B' := fun q => w.heap.size ≤ q ∧ q ≠ w.heap.size ∧ q ≠ w.heap.size + 1) k5 fun q _ h => ⟨h, fun e => h.2.2 e⟩
    exact a.kp k6 fun q _ h => ⟨h.1, fun e => h.2.1 e⟩
  cases hv : val s (bl s 0) with
  | none =>
    refine sat_iteT.2 (p_no hd4 rfl fun w6 k6 => ⟨rfl, ?_⟩)
    exact fin (by rw [places, hv]; rfl) (Kp.refl _ _) k6 fun p hp => by rw [places, hv] at hp; cases hp
  | some p =>
    obtain ⟨rfl, hP⟩ := hp p hv
    have hP4 := (hP.kp (Kp.refl Off w3) up).kp (B' := fun q => w.heap.size ≤ q ∧ q ≠ w.heap.size ∧ q ≠ w.heap.size + 1) kc fun q _ h => ⟨h, fun e => e⟩
    refine sat_iteF.2 ?_
    refine s_call (blanks_any hs' hj hR4) ?_
    rintro e w5 ⟨rfl, hR5, k5⟩
    refine ⟨(), rfl, ?_⟩
    simp only [addr_add, Nat.zero_add]
    refine s_load ((bl s p.e : Nat) : Int) (hR5.cell 1) ?_
    have hd5 := k5.blk hd4 ne0
    have hc5 := k5.blk hc4 (fun e => by have : w3.heap.size = w.heap.size + 1 := e; omega)
    refine s_iteN (fun h => ?_) (fun h => ?_)
    · have hpl : places s = none := by rw [places, hv]; exact if_neg (by omega)
      refine p_no hd5 rfl fun w6 k6 => ⟨rfl, ?_⟩
      exact fin (by rw [hpl]; rfl) k5 k6 fun p hp => by rw [hpl] at hp; cases hp
    · have hpl : places s = some p := by rw [places, hv]; exact if_pos (by omega)
      refine p_yes hc5 hd5 rfl fun w6 k6 => ⟨rfl, ?_⟩
      exact fin (by rw [hpl]; rfl) k5 k6 fun p' hp => by rw [hpl] at hp; cases hp; exact hP4
end Go.Proofs.YtkpnomdmnhhaoaaGreatDoor.Sr
