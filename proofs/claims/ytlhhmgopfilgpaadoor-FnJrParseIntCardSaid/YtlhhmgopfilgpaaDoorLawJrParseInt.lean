/- ParseInt's errors against the reference's Int64. No condition beyond the statement's own guards. -/
import Derived.Test.YtlhhmgopfilgpaaDoorPi
import Derived.Test.YtlhhmgopfilgpaaDoorJk
import Derived.Test.YtlhhmgopfilgpaaDoorRows
import Derived.OpenShut
namespace Go.Proofs.YtlhhmgopfilgpaaDoor.LawJrParseInt
open Go Go.Proofs Go.RowKit Go.Proofs.YtlhhmgopfilgpaaDoor.Rx Go.Proofs.YtlhhmgopfilgpaaDoor.Tr Go.Proofs.YtlhhmgopfilgpaaDoor.Pl Go.Proofs.YtlhhmgopfilgpaaDoor.Ui Go.Proofs.YtlhhmgopfilgpaaDoor.Pi Go.Proofs.YtlhhmgopfilgpaaDoor.Jk

/-- The kind that jrInt tells. -/
def jrI (s : ByteArray) : Int := if (i64O s).isSome then 0 else if decB s then 8 else 7
theorem jrInt_any {s : ByteArray} {w : World} (hs : s.size < 4611686018427387904) : Calls Tryd.prog 8 #[.string s] w fun e w' => e = .returned (.int .i64 (jrI s)) ∧ w' = w := by
  refine laws_jrInt.calls _ ?_
  unfold laws_jrInt.t
  refine s_call (i64_any hs) ?_
  rintro e w1 ⟨rfl, rfl⟩
  refine ⟨((i64O s).getD 0, (i64O s).isSome, ()), rfl, ?_⟩
  unfold jrI
  cases hi : i64O s with
  | some n => exact sat_iteT.2 (s_leaf ⟨rfl, rfl, rfl⟩)
  | none =>
    refine sat_iteF.2 (s_call (decimal_any hs) ?_)
    rintro e w2 ⟨rfl, rfl⟩
    refine ⟨decB s, rfl, ?_⟩
    cases hd : decB s with
    | true => exact sat_iteT.2 (s_leaf ⟨rfl, rfl, rfl⟩)
    | false => exact sat_iteF.2 (s_leaf ⟨rfl, rfl, rfl⟩)
/-- What impl.JrParseInt tells. -/
def JpPost (s : ByteArray) (w : World) (e : Ending) (w' : World) : Prop :=
  Kp Off w w' ∧ ∃ k : Int, e = .returned (.int .i64 k) ∧ (¬ outS s → k = jrI s)
theorem jrParse_any {A : Nat → Addr} {s : ByteArray} {w : World} (hs : s.size < 4611686018427387904) (hE : Errs A w) : Calls Tryd.prog 9 #[.string s] w (JpPost s w) := by
  refine impl_JrParseInt.calls _ ?_
  unfold impl_JrParseInt.t
  obtain ⟨c, w1, h1, h4, h2, h3⟩ := convert_bytesC (P := Tryd.prog) (w := w) s Tryd.underlying9 Tryd.underlying43 Tryd.underlying5
  refine s_eff (some ⟨w.heap.size, 0, none⟩, s.size, c) h1 ?_
  have hE1 := hE.off h3
  refine s_call (R := fun e w' => Kp Off w1 w' ∧ ((∃ v, e = .returned (.tuple #[.int .i64 v, .nilIface]) ∧ (i64O s).isSome = true) ∨ (∃ v g, g ∈ kinds ∧ e = .returned (.tuple #[.int .i64 v, errV A g]) ∧ (i64O s).isSome = false ∧
      ((g = 0 ∧ (decB s = true ∨ outS s)) ∨ (g = 1 ∧ decB s = false))))) ?_ ?_
  · refine jsonparser_ParseInt.calls _ _ _ ?_
    unfold jsonparser_ParseInt.t
    refine s_call (parseInt_any hs h4 h2) ?_
    rintro e w2 ⟨rfl, v, ov, rfl, a1, a2, a3⟩
    refine ⟨(v, (i64O s).isSome, ov, ()), rfl, ?_⟩
    cases hi : i64O s with
    | some n => exact sat_iteF.2 (s_leaf ⟨rfl, Kp.refl _ _, .inl ⟨v, rfl, rfl⟩⟩)
    | none =>
      refine sat_iteT.2 ?_
      have b2 := a2 hi
      refine s_ite (fun ho => ?_) (fun ho => ?_)
      · have ho : ov = true := ho
        subst ho
        refine s_drew (s_load (errV A _) (hE1.1 _ (by decide)).cell (s_leaf ⟨rfl, (Kp.refl _ _).drew, .inr ⟨0, _, ?_, rfl, rfl, .inl ⟨rfl, a3 rfl⟩⟩⟩))
        decide
      · have ho : ov = false := ho
        subst ho
        refine s_drew (s_load (errV A _) (hE1.1 _ (by decide)).cell (s_leaf ⟨rfl, (Kp.refl _ _).drew, .inr ⟨0, _, ?_, rfl, rfl, .inr ⟨rfl, ?_⟩⟩⟩))
        · decide
        · cases hd : decB s with
          | false => rfl
          | true => exact absurd (b2 hd) (by decide)
  · rintro e w2 ⟨k, ⟨v, rfl, hi⟩ | ⟨v, g, hg, rfl, hi, h⟩⟩
    · refine ⟨(v, .nilIface, ()), rfl, ?_⟩
      refine s_call jrKind_nil ?_
      rintro e w3 ⟨rfl, rfl⟩
      refine ⟨(0 : Int), rfl, s_leaf ⟨rfl, h3.trans k, 0, rfl, fun _ => ?_⟩⟩
      unfold jrI; rw [hi]; rfl
    · refine ⟨(v, errV A g, ()), rfl, ?_⟩
      refine s_call (jrKind_err (hE1.off k) hg) ?_
      rintro e w3 ⟨rfl, rfl⟩
      refine ⟨kindOf g, rfl, s_leaf ⟨rfl, h3.trans k, kindOf g, rfl, fun hno => ?_⟩⟩
      unfold jrI; rw [hi]
      rcases h with ⟨rfl, h⟩ | ⟨rfl, h⟩
      · rw [h.resolve_right hno]; rfl
      · rw [h]; rfl
theorem star : "*" ++ "errors.errorString" = "*errors.errorString" := by decide
theorem type_errS (u : TypeId) (h : Tryd.prog.typeName? 3 u = some "*errors.errorString") : u = tPE :=
  typeName_ptr_named (nm := "errors.errorString") (by rw [star]; kernel_rfl) (by kernel_rfl) (by decide) u (by rw [star]; exact h)
def bigW : ByteArray := ByteArray.mk #[57, 50, 50, 51, 51, 55, 50, 48, 51, 54, 56, 53, 52, 55, 55, 53, 56, 48, 56]
theorem big_st : st bigW = 0 := by kernel_rfl
theorem big_all : allD bigW 0 19 := fun k _ hk => List.all_eq_true.1 (show ((List.range 19).all fun k => isDig (bt bigW (k : Int))) = true by kernel_rfl) k (List.mem_range.2 hk)
theorem big_dec : decB bigW = true := dec_of (by rw [big_st]; exact (by decide : 0 < 19)) (by rw [big_st]; exact big_all)
theorem big_val : vOf bigW = 9223372036854775808 := by kernel_rfl
theorem big_jr : jrI bigW = 8 := by
  unfold jrI
  rw [i64O_noRng (by rw [big_val]; rfl), big_dec]; rfl
theorem big_out : ¬ outS bigW := by
  rintro ⟨h, _⟩
  have := (decB_iff.1 big_dec).2
  omega

theorem walk (s : ByteArray) (w : World) (hs : s.size ≤ 140737488351232) (hL : laidMetH Tryd.prog Rows.fnJrParseIntRow.laid w) :
    Calls Tryd.prog 3 #[.string s] w fun e w' => e = .returned (.bool true) ∧ RowKit.Below w.heap.size w w' := by
  obtain ⟨A, hE⟩ : ∃ A, Errs A w := by
    obtain ⟨ps, h1, h2, h3⟩ := laid_of_H hL (by kernel_rfl)
    obtain ⟨A, h4, h5, _⟩ := sents_of_vars (P := Tryd.prog) (w := w) (ti := tE) (tp := tPE) (te := 135) (ts := 9) (nm := "*errors.errorString") Tryd.underlying40
      (type_errS) Tryd.underlying117 Tryd.underlying135 rfl rfl Tryd.underlying9 (by kernel_rfl) (by kernel_rfl) []
      [("pub-tetrapla/pub/jsonparser.KeyPathNotFoundError", _), ("pub-tetrapla/pub/jsonparser.UnknownValueTypeError", _), ("pub-tetrapla/pub/jsonparser.MalformedJsonError", _), ("pub-tetrapla/pub/jsonparser.MalformedStringError", _), ("pub-tetrapla/pub/jsonparser.MalformedArrayError", _), ("pub-tetrapla/pub/jsonparser.MalformedObjectError", _), ("pub-tetrapla/pub/jsonparser.MalformedValueError", _), ("pub-tetrapla/pub/jsonparser.OverflowIntegerError", _), ("pub-tetrapla/pub/jsonparser.MalformedStringEscapeError", _), ("pub-tetrapla/pub/jsonparser.NullValueError", _)]
      kinds ps h1 (by kernel_rfl) (fun g hg => by
        have : (kinds.all fun g => ((Tryd.prog.globals[g]?).map (·.type) == some tE)) = true := by kernel_rfl
        simpa using List.all_eq_true.1 this g hg) (by decide) h2 h3
    exact ⟨A, fun g hg => (h4 g hg).1, h5⟩
  refine laws_FnJrParseInt.calls _ ?_
  unfold laws_FnJrParseInt.t
  have done : ∀ (w1 : World), Kp Off w w1 → (Ending.returned (retVal [.bool true]) = .returned (.bool true) ∧ RowKit.Below w.heap.size w w1) := fun w1 h => ⟨rfl, h.belowOff⟩
  refine s_iteD (fun _ => s_leaf ⟨rfl, done w (Kp.refl _ _)⟩) (fun _ => ?_)
  refine s_iteD (fun _ => s_leaf ⟨rfl, done w (Kp.refl _ _)⟩) (fun _ => ?_)
  refine s_sign ?_
  simp only [laws_FnJrParseInt.t1]
  refine s_cut (fun x w' => x = ((st s : Int), ()) ∧ w = w') ?_ ?_
  · refine s_ite (fun hn => ?_) (fun hn => ?_)
    · refine s_leaf ?_; rw [if_pos rfl]
      exact ⟨((1 : Int), ()), rfl, by unfold st; rw [hn]; rfl, rfl⟩
    · refine s_leaf ?_; rw [if_pos rfl]
      exact ⟨((0 : Int), ()), rfl, by unfold st; rw [hn]; rfl, rfl⟩
  rintro x w1 ⟨rfl, rfl⟩
  simp only [laws_FnJrParseInt.t2]
  have hst := st_le s
  have hdl := digs_le s _ hst
  refine s_loop (fun n x w' => ∃ j : Nat, x = ((j : Int), ()) ∧ j ≤ s.size ∧ n = s.size - j ∧ digs s j = digs s (st s) ∧ w = w') (s.size - st s) ((st s : Int), ()) rfl ⟨st s, rfl, hst, rfl, rfl, rfl⟩ ?_
  rintro n x w1 ⟨j, rfl, hj, rfl, hd, rfl⟩
  simp only [laws_FnJrParseInt.t3]
  have fin : ∀ (Q : Nat → List Value → World → Prop) (w1 : World), ¬ outS s → Kp Off w w1 → (∀ w', Kp Off w w' → Q 0 [.bool true] w') →
      sat Tryd.prog (.call 9 #[(Value.string s)] (.int .i64) fun (i4 : Int) =>
            .call 8 #[(Value.string s)] (.int .i64) fun (i5 : Int) =>
            .ite (i4 == i5) (
              .call 9 #[(Value.string bigW)] (.int .i64) fun (i6 : Int) =>
              .leaf 0 [(Value.bool (i6 == (8 : Int)))]) (
              .leaf 0 [(Value.bool Bool.false)])) Q w1 := by
    intro Q w1 hno k hQ
    refine s_call (jrParse_any (by omega) (hE.off k)) ?_
    rintro e w2 ⟨k2, r, rfl, hr⟩
    refine ⟨r, rfl, ?_⟩
    refine s_call (jrInt_any (by omega)) ?_
    rintro e w3 ⟨rfl, rfl⟩
    refine ⟨jrI s, rfl, ?_⟩
    rw [hr hno, BEq.rfl]
    refine sat_iteT.2 ?_
    refine s_call (jrParse_any (s := bigW) (by decide) (hE.off (k.trans k2))) ?_
    rintro e w4 ⟨k4, r', rfl, hr'⟩
    refine ⟨r', rfl, s_leaf ?_⟩
    rw [hr' big_out, big_jr]
    exact hQ _ ((k.trans k2).trans k4)
  have ok : ∀ w', Kp Off w w' → (fun l' vs w'' => if l' = 1 then ∃ n' x', vs = (Sh.cons (.int .i64) .nil).vals x' ∧ n' < s.size - j ∧ ∃ j : Nat, x' = ((j : Int), ()) ∧ j ≤ s.size ∧ n' = s.size - j ∧ digs s j = digs s (st s) ∧ w = w'' else l' = 0 ∧ (Ending.returned (retVal vs) = .returned (.bool true) ∧ RowKit.Below w.heap.size w w'')) 0 [.bool true] w' := by
    intro w' k
    show if (0 : Nat) = 1 then _ else _
    rw [if_neg (by decide)]
    exact ⟨rfl, done w' k⟩
  have part : j = digs s (st s) → j < s.size → ∀ (Q : Nat → List Value → World → Prop) (t : T), (∀ w', Kp Off w w' → Q 0 [.bool true] w') → (¬ outS s → sat Tryd.prog t Q w) →
      sat Tryd.prog (.chk (((0 : Int) ≤ (0 : Int)) ∧ (((0 : Int) ≤ (j : Int)) ∧ ((j : Int) ≤ (((ByteArray.size s) : Nat) : Int)))) <|
          .call 8 #[(Value.string (ByteArray.extract s 0 (Int.toNat (j : Int))))] (.int .i64) fun (i3 : Int) =>
          .ite (i3 == (8 : Int)) (.leaf 0 [(Value.bool Bool.true)]) t) Q w := by
    intro hjd hlt Q t hQ ht
    refine s_chk (by omega) ?_
    rw [Int.toNat_natCast]
    refine s_call (jrInt_any (by rw [size_take (by omega)]; omega)) ?_
    rintro e w3 ⟨rfl, rfl⟩
    refine ⟨_, rfl, ?_⟩
    refine s_iteE (fun _ => s_leaf (hQ _ (Kp.refl _ _))) (fun h8 => ht ?_)
    rintro ⟨_, h1, h2⟩
    rw [← hjd] at h1 h2
    apply h8
    unfold jrI
    rw [h1, h2]; rfl
  have bigE : (ByteArray.mk #[(57 : UInt8), (50 : UInt8), (50 : UInt8), (51 : UInt8), (51 : UInt8), (55 : UInt8), (50 : UInt8), (48 : UInt8), (51 : UInt8), (54 : UInt8), (56 : UInt8), (53 : UInt8), (52 : UInt8), (55 : UInt8), (55 : UInt8), (53 : UInt8), (56 : UInt8), (48 : UInt8), (56 : UInt8)]) = bigW := rfl
  rw [bigE]
  refine s_iteD (fun h1 => ?_) (fun h1 => ?_)
  · have hlt : j < s.size := by omega
    refine s_chk (by omega) ?_
    refine s_iteD (fun h2 => ?_) (fun h2 => ?_)
    · refine s_chk (by omega) ?_
      refine s_iteD (fun h3 => ?_) (fun h3 => ?_)
      · refine s_leaf ?_
        rw [if_pos rfl, wrap_in (by omega) (by omega)]
        exact ⟨s.size - (j + 1), (((j + 1 : Nat) : Int), ()), rfl, by omega, j + 1, rfl, hlt, rfl, by rw [← digs_yes (isDig_yes (by omega))]; exact hd, rfl⟩
      · have e : j = digs s (st s) := by rw [← hd, digs_no (isDig_no (by omega))]
        refine s_iteD (fun _ => ?_) (fun h => absurd h1 h)
        exact part e hlt _ _ ok fun hno => fin _ w hno (Kp.refl _ _) ok
    · have e : j = digs s (st s) := by rw [← hd, digs_no (isDig_no (by omega))]
      refine s_iteD (fun _ => ?_) (fun h => absurd h1 h)
      exact part e hlt _ _ ok fun hno => fin _ w hno (Kp.refl _ _) ok
  · have e : j = digs s (st s) := by rw [← hd, digs_end (by omega)]
    refine s_iteD (fun h => absurd h h1) (fun _ => ?_)
    exact fin _ w (fun ⟨h, _⟩ => by omega) (Kp.refl _ _) ok
end Go.Proofs.YtlhhmgopfilgpaaDoor.LawJrParseInt
