/- jsonparser's inner reader of whole numbers against the reference's Int64. No condition beyond the statement's own guards. -/
import Derived.Test.YtdjilnhalpmabaaPi
import Derived.OpenShut
namespace Go.Proofs.Ytdjilnhalpmabaa.LawJpDigits
open Go Go.Proofs Go.Proofs.Ytdjilnhalpmabaa.Rx Go.Proofs.Ytdjilnhalpmabaa.Tr Go.Proofs.Ytdjilnhalpmabaa.Pl Go.Proofs.Ytdjilnhalpmabaa.Ui Go.Proofs.Ytdjilnhalpmabaa.Pi

def DgPost (s : ByteArray) (w : World) (e : Ending) (w' : World) : Prop :=
  Kp Off w w' ∧ ∃ (v : Int) (ov : Bool), e = .returned (retVal [.int .i64 v, .bool (i64O s).isSome, .bool ov]) ∧ (∀ n, i64O s = some n → v = n ∧ ov = false) ∧ (i64O s = none → decB s = true → ov = true) ∧ (ov = true → decB s = true ∨ outS s)
theorem jpDigits_any {s : ByteArray} {w : World} (hs : s.size < 4611686018427387904) : Calls Try.prog 12 #[.string s] w (DgPost s w) := by
  refine impl_JpDigits.calls _ ?_
  unfold impl_JpDigits.t
  refine s_call (R := DgPost s w) ?_ ?_
  · refine jsonparser_DoorParseInt.calls _ ?_
    unfold jsonparser_DoorParseInt.t
    obtain ⟨c, w1, h1, h4, h2, h3⟩ := convert_bytesC (P := Try.prog) (w := w) s Try.underlying9 Try.underlying55 Try.underlying5
    refine s_eff (some ⟨w.heap.size, 0, none⟩, s.size, c) h1 ?_
    refine s_call (parseInt_any hs h4 h2) ?_
    rintro e w2 ⟨rfl, v, ov, rfl, a⟩
    refine ⟨(v, (i64O s).isSome, ov, ()), rfl, ?_⟩
    exact ⟨rfl, h3, v, ov, rfl, a⟩
  · rintro e w2 ⟨k, v, ov, rfl, a⟩
    refine ⟨(v, (i64O s).isSome, ov, ()), rfl, ?_⟩
    exact ⟨rfl, k, v, ov, rfl, a⟩
theorem walk (s : ByteArray) (w : World) (hs : s.size ≤ 140737488351232) :
    Calls Try.prog 5 #[.string s] w fun e w' => e = .returned (.bool true) ∧ RowKit.Below w.heap.size w w' := by
  refine laws_FnJpDigits.calls _ ?_
  unfold laws_FnJpDigits.t
  have done : ∀ (w1 : World), Kp Off w w1 → (Ending.returned (retVal [.bool true]) = .returned (.bool true) ∧ RowKit.Below w.heap.size w w1) := fun w1 h => ⟨rfl, h.belowOff⟩
  refine s_iteD (fun _ => s_leaf ⟨rfl, done w (Kp.refl _ _)⟩) (fun _ => ?_)
  refine s_iteD (fun _ => s_leaf ⟨rfl, done w (Kp.refl _ _)⟩) (fun _ => ?_)
  refine s_sign ?_
  simp only [laws_FnJpDigits.t1]
  refine s_cut (fun x w' => x = ((st s : Int), ()) ∧ w = w') ?_ ?_
  · refine s_ite (fun hn => ?_) (fun hn => ?_)
    · refine s_leaf ?_; rw [if_pos rfl]
      exact ⟨((1 : Int), ()), rfl, by unfold st; rw [hn]; rfl, rfl⟩
    · refine s_leaf ?_; rw [if_pos rfl]
      exact ⟨((0 : Int), ()), rfl, by unfold st; rw [hn]; rfl, rfl⟩
  rintro x w1 ⟨rfl, rfl⟩
  simp only [laws_FnJpDigits.t2]
  have hst := st_le s
  have hdl := digs_le s _ hst
  refine s_loop (fun n x w' => ∃ j : Nat, x = ((j : Int), ()) ∧ j ≤ s.size ∧ n = s.size - j ∧ digs s j = digs s (st s) ∧ w = w') (s.size - st s) ((st s : Int), ()) rfl ⟨st s, rfl, hst, rfl, rfl, rfl⟩ ?_
  rintro n x w1 ⟨j, rfl, hj, rfl, hd, rfl⟩
  simp only [laws_FnJpDigits.t3]
  -- what follows the digits
  have rest : ∀ (Q : Nat → List Value → World → Prop) (k : (Int × (Bool × (Bool × PUnit))) → (Int × (Bool × PUnit)) → (Sh.cons .bool .nil).Ty → T),
      j = digs s (st s) →
      (∀ w', Kp Off w w' → Q 0 [.bool true] w') →
      (∀ z3 z4 w' Q', Kp Off w w' → (∀ w', Kp Off w w' → Q' 0 [.bool true] w') → ∀ (ov : Bool) (v v' : Int), z3 = (v, (i64O s).isSome, ov, ()) → z4 = (v', (i64O s).isSome, ()) →
        (i64O s ≠ none → ov = false) → (i64O s = none → decB s = true → ov = true) → (ov = true → decB s = true ∨ outS s) → sat Try.prog (k z3 z4 (false, ())) Q' w') →
      sat Try.prog (.call 12 #[(Value.string s)] (.tuple (.cons (.int .i64) (.cons .bool (.cons .bool .nil)))) fun (z3 : (Int × (Bool × (Bool × PUnit)))) =>
        .call 13 #[(Value.string s)] (.tuple (.cons (.int .i64) (.cons .bool .nil))) fun (z4 : (Int × (Bool × PUnit))) =>
        .cut 1 (.cons .bool .nil) (
          .ite (!(((z3).2).1 == ((z4).2).1)) (
            .leaf 1 [(Value.bool Bool.true)]) (
            .ite ((z3).2).1 (
              .leaf 1 [(Value.bool ((z3).1 != (z4).1))]) (
              .leaf 1 [(Value.bool Bool.false)])))
          (k z3 z4)) Q w := by
    intro Q k hj hQ hk
    refine s_call (jpDigits_any (by omega)) ?_
    rintro e w2 ⟨k2, v, ov, rfl, a, b, c⟩
    refine ⟨(v, (i64O s).isSome, ov, ()), rfl, ?_⟩
    refine s_call (i64_any (by omega)) ?_
    rintro e w3 ⟨rfl, rfl⟩
    refine ⟨((i64O s).getD 0, (i64O s).isSome, ()), rfl, ?_⟩
    refine s_cut (fun x w' => x = (false, ()) ∧ w3 = w') ?_ ?_
    · cases hi : i64O s with
      | none =>
        simp only [Option.isSome_none, BEq.rfl, Bool.not_true, sat_iteF, sat_leaf, if_true]
        exact ⟨(false, ()), rfl, rfl, trivial⟩
      | some n =>
        simp only [Option.isSome_some, BEq.rfl, Bool.not_true, sat_iteF, sat_iteT, sat_leaf, if_true]
        obtain ⟨rfl, _⟩ := a n hi
        refine ⟨(false, ()), ?_, rfl, trivial⟩
        simp
        rfl
    · rintro x w' ⟨rfl, rfl⟩
      refine hk _ _ _ _ k2 hQ ov v _ rfl rfl (fun h => ?_) b c
      cases hi : i64O s with
      | none => exact absurd hi h
      | some n => exact (a n hi).2
  have fin : j = digs s (st s) → ∀ (Q : Nat → List Value → World → Prop) (ov : Bool) (v v' : Int) (w' : World), Kp Off w w' → (∀ w', Kp Off w w' → Q 0 [.bool true] w') →
        (i64O s ≠ none → ov = false) → (i64O s = none → decB s = true → ov = true) → (ov = true → decB s = true ∨ outS s) → sat Try.prog (laws_FnJpDigits.t4 s (j : Int) (v, (i64O s).isSome, ov, ()) (v', (i64O s).isSome, ()) false) Q w' := by
    intro hj Q ov v v' w' k hQ h1 h2 h3
    simp only [laws_FnJpDigits.t4, sat_iteF, Int.toNat_natCast]
    refine s_chk (by omega) ?_
    refine s_call (i64_any (by rw [size_take (by omega)]; omega)) ?_
    rintro e w3 ⟨rfl, rfl⟩
    refine ⟨((i64O (s.extract 0 j)).getD 0, (i64O (s.extract 0 j)).isSome, ()), rfl, ?_⟩
    have last : (¬ outS s) → ∀ Q : Nat → List Value → World → Prop, Q 0 [.bool true] w3 → sat Try.prog (.ite (!(i64O s).isSome) (
          .call 14 #[(Value.string s)] .bool fun (b8 : Bool) =>
          .leaf 0 [(Value.bool (ov == b8))]) (
          .leaf 0 [(Value.bool (!ov))])) Q w3 := by
      intro hno Q hQ
      cases hi : i64O s with
      | none =>
        simp only [Option.isSome_none, Bool.not_false, sat_iteT]
        refine s_call (decimal_any (by omega)) ?_
        rintro e w4 ⟨rfl, rfl⟩
        refine ⟨decB s, rfl, s_leaf ?_⟩
        have : ov = decB s := by
          cases hov : ov with
          | true => exact ((h3 hov).resolve_right hno).symm
          | false =>
            cases hdc : decB s with
            | false => rfl
            | true => rw [h2 hi hdc] at hov; exact absurd hov (by decide)
        rw [this]; simpa using hQ
      | some n =>
        simp only [Option.isSome_some, Bool.not_true, sat_iteF, sat_leaf]
        rw [h1 (by rw [hi]; simp)]
        exact hQ
    refine s_iteD (fun h4 => ?_) (fun h4 => ?_)
    · cases hp : i64O (s.extract 0 j) with
      | none =>
        simp only [Option.isSome_none, Bool.not_false, sat_iteT]
        refine s_chk (by omega) ?_
        refine s_call (decimal_any (by rw [size_take (by omega)]; omega)) ?_
        rintro e w4 ⟨rfl, rfl⟩
        refine ⟨decB (s.extract 0 j), rfl, ?_⟩
        cases hdp : decB (s.extract 0 j) with
        | true => exact sat_iteT.2 (hQ _ k)
        | false =>
          refine sat_iteF.2 (last ?_ _ (hQ _ k))
          rintro ⟨_, h, _⟩
          rw [← hj, hdp] at h; cases h
      | some n =>
        simp only [Option.isSome_some, Bool.not_true, sat_iteF]
        refine last ?_ _ (hQ _ k)
        rintro ⟨_, _, h⟩
        rw [← hj, hp] at h; cases h
    · refine last ?_ _ (hQ _ k)
      rintro ⟨h, _⟩
      omega
  have ok : ∀ w', Kp Off w w' → (fun l' vs w'' => if l' = 1 then ∃ n' x', vs = (Sh.cons (.int .i64) .nil).vals x' ∧ n' < s.size - j ∧ ∃ j : Nat, x' = ((j : Int), ()) ∧ j ≤ s.size ∧ n' = s.size - j ∧ digs s j = digs s (st s) ∧ w = w'' else l' = 0 ∧ (Ending.returned (retVal vs) = .returned (.bool true) ∧ RowKit.Below w.heap.size w w'')) 0 [.bool true] w' := by
    intro w' k
    show if (0 : Nat) = 1 then _ else _
    rw [if_neg (by decide)]
    exact ⟨rfl, done w' k⟩
  refine s_iteD (fun h1 => ?_) (fun h1 => ?_)
  · have hlt : j < s.size := by omega
    refine s_chk (by omega) ?_
    refine s_iteD (fun h2 => ?_) (fun h2 => ?_)
    · refine s_chk (by omega) ?_
      refine s_iteD (fun h3 => ?_) (fun h3 => ?_)
      · refine s_leaf ?_
        rw [if_pos rfl, wrap_in (by omega) (by omega)]
        exact ⟨s.size - (j + 1), (((j + 1 : Nat) : Int), ()), rfl, by omega, j + 1, rfl, hlt, rfl, by rw [← digs_yes (isDig_yes (by omega))]; exact hd, rfl⟩
      · have e : j = digs s (st s) := by rw [← hd, digs_no (isDig_no (by omega))]
        refine rest _ (fun z3 z4 z => laws_FnJpDigits.t4 s (j : Int) z3 z4 z.1) e ok ?_
        rintro _ _ w' Q' k hQ ov v v' rfl rfl a b c
        exact fin e Q' ov v v' w' k hQ a b c
    · have e : j = digs s (st s) := by rw [← hd, digs_no (isDig_no (by omega))]
      refine rest _ (fun z3 z4 z => laws_FnJpDigits.t5 s (j : Int) z3 z4 z.1) e ok ?_
      rintro _ _ w' Q' k hQ ov v v' rfl rfl a b c
      exact fin e Q' ov v v' w' k hQ a b c
  · have e : j = digs s (st s) := by rw [← hd, digs_end (by omega)]
    refine rest _ (fun z3 z4 z => laws_FnJpDigits.t6 s (j : Int) z3 z4 z.1) e ok ?_
    rintro _ _ w' Q' k hQ ov v v' rfl rfl a b c
    exact fin e Q' ov v v' w' k hQ a b c
end Go.Proofs.Ytdjilnhalpmabaa.LawJpDigits
