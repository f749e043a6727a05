/- pretty.Color: its walk, strings. No statement of the set is proved here. -/
import Derived.Test.YtiganlecnpphmaaCc
namespace Go.Proofs.Ytiganlecnpphmaa.Cc
open Go Go.Proofs Go.RowKit Go.Proofs.Ytiganlecnpphmaa.Rx Go.Proofs.Ytiganlecnpphmaa.Tr Go.Proofs.Ytiganlecnpphmaa.Pl Go.Proofs.Ytiganlecnpphmaa.Pw Go.Proofs.Ytiganlecnpphmaa.Bw Go.Proofs.Ytiganlecnpphmaa.Co
open Go.Proofs.Ytiganlecnpphmaa.Sr (slV tBs tB Sl)
open Go.Proofs.Ytiganlecnpphmaa.Cw (Sy mb qi_end qi_on qi_es esc_es)

variable {w0 w w1 : World} {x x1 y : Sl} {D D1 : List UInt8} {stk : St} {s : ByteArray} {st : Sy} {r h : Nat}
/-- A name's marks, or a string's. -/
def ki (b : Bool) : Nat := if b then 0 else 1
theorem s_kmark {Q : Nat → List Value → World → Prop} {L c : Nat} {b : Bool} {p p' : Prop} {ats ats' : Array TypeId} {K : (Sh.cons .slice .nil).Ty → T} (H : SS w0 w x D y stk) (I : In w0 s st r h) (hm : ∀ k, (st k).size ≤ 64) (hD : D.length ≤ 100000000) (hp : p) (hp' : p') (hc : c < 2)
    (ha : ats = #[tBs, 9]) (ha' : ats' = #[tBs, 9])
    (hK : ∀ (x' : Sl) (w' : World), SS w0 w' x' (D ++ mb st (2 * ki b + c)) y stk → sat Try.prog (K (x', ())) Q w') :
    sat Try.prog (.cut L (.cons .slice .nil) (
      .ite b (
        .ptr (some ⟨h, 0, none⟩) fun z => .chk p <| .load (Addr.add (Addr.add z 0) c) .str fun u => .eff (Builtin.append_ ats tBs #[(Value.slice (x).1 ((x).2).1 ((x).2).2), (Value.string u)]) .slice fun (v : Sl) => .leaf L [(Value.slice (v).1 ((v).2).1 ((v).2).2)]) (
        .ptr (some ⟨h, 0, none⟩) fun z => .chk p' <| .load (Addr.add (Addr.add z 2) c) .str fun u => .eff (Builtin.append_ ats' tBs #[(Value.slice (x).1 ((x).2).1 ((x).2).2), (Value.string u)]) .slice fun (v : Sl) => .leaf L [(Value.slice (v).1 ((v).2).1 ((v).2).2)])) K) Q w := by
  refine s_cut (fun z w' => SS w0 w' z.1 (D ++ mb st (2 * ki b + c)) y stk) ?_ (fun z w' hz => hK z.1 w' hz)
  refine s_ite (fun hb => ?_) (fun hb => ?_)
  · refine s_mark (2 * ki b + c) H I hm hD hp (by rw [hb]; show 0 + c = 2 * 0 + c; omega) (by rw [hb]; show 2 * 0 + c < 16; omega) ha fun x' w' H' => s_leaf ?_
    rw [if_pos rfl]; exact ⟨(x', ()), rfl, H'⟩
  · refine s_mark (2 * ki b + c) H I hm hD hp' (by rw [hb]; show 2 + c = 2 * 1 + c; omega) (by rw [hb]; show 2 * 1 + c < 16; omega) ha' fun x' w' H' => s_leaf ?_
    rw [if_pos rfl]; exact ⟨(x', ()), rfl, H'⟩
/-- No backslash is escaped. -/
def NB (s : ByteArray) : Prop := ∀ i : Nat, bt s (i : Int) = 92 → bt s ((i + 1 : Nat) : Int) ≠ 92
/-- In a string at place j: outside of an escape, or in one that begins at p. -/
def InS (st : Sy) (k : Nat) (s : ByteArray) (i e j : Nat) (eb : Bool) (u : Int) (F : List UInt8) : Prop :=
  (eb = false ∧ strE s j = some e ∧ bt s ((j - 1 : Nat) : Int) ≠ 92 ∧ F ++ qi (mb st) k s j e = qi (mb st) k s (i + 1) e) ∨
  (eb = true ∧ ∃ p, i < p ∧ p < j ∧ j < es s p ∧ u = ((es s p - j : Nat) : Int) ∧ bt s (p : Int) = 92 ∧ strE s p = some e ∧ F ++ (sl s j (es s p) ++ (mb st 13 ++ (mb st (2 * k) ++ qi (mb st) k s (es s p) e))) = qi (mb st) k s (i + 1) e)
/-- The bytes of an escape. -/
theorem esc_bytes {p e : Nat} (h : strE s p = some e) (hc : bt s (p : Int) = 92) (hN : NB s) : ∀ j, p < j → j < es s p → bt s (j : Int) ≠ 92 ∧ (bt s (j : Int) = 34 → j = p + 1) := by
  intro j h1 h2
  have hn := hN p hc
  rw [strE_esc hc] at h
  cases he : escE s (p + 1) with
  | none => rw [he] at h; cases h
  | some q =>
    unfold escE at he
    split at he
    · rename_i hx
      have hx := isX_iff.1 hx
      have : es s p = p + 2 := by unfold es; rw [if_neg (by omega)]
      have : j = p + 1 := by omega
      subst this
      exact ⟨hn, fun _ => rfl⟩
    · split at he
      · rename_i hu
        have he6 : es s p = p + 6 := by unfold es; rw [if_pos hu]
        rcases Nat.lt_or_ge (p + 1) j with g | g
        · have hh : ∀ {n i m : Nat}, hexE s i n = some m → ∀ d, d < n → isH (bt s ((i + d : Nat) : Int)) = true := by
            intro n
            induction n with
            | zero => intro i m _ d hd; omega
            | succ n ih =>
              intro i m hm d hd
              unfold hexE at hm
              split at hm
              · cases d with
                | zero => assumption
                | succ d =>
                  have := ih hm d (by omega)
                  rwa [show i + 1 + d = i + (d + 1) by omega] at this
              · cases hm
          have := isH_iff.1 (hh he (j - (p + 1 + 1)) (by omega))
          rw [show p + 1 + 1 + (j - (p + 1 + 1)) = j by omega] at this
          exact ⟨by omega, fun e34 => by omega⟩
        · have : j = p + 1 := by omega
          subst this
          exact ⟨hn, fun _ => rfl⟩
      · cases he
theorem tmod1 : (Int.tmod (-1 : Int) (2 : Int) != (0 : Int)) = true := by decide
theorem tmod2 : (Int.tmod (-2 : Int) (2 : Int) != (0 : Int)) = false := by decide
theorem in_round {Q : Nat → List Value → World → Prop} {i e j : Nat} {kb eb : Bool} {u : Int} {DD F : List UInt8} (I : In w0 s st r h) (hs : s.size ≤ 100000) (hm : ∀ k, (st k).size ≤ 64) (hN : NB s) (hij : i < j) (he : e ≤ s.size)
    (hI : InS st (ki kb) s i e j eb u F) (H : SS w0 w x (DD ++ F) y stk) (hD : DD.length + 130 * s.size + 1000 ≤ 100000000) (hF : F.length ≤ 130 * (j - i))
    (h3 : ∀ x' w' eb' u' F', SS w0 w' x' (DD ++ F') y stk → InS st (ki kb) s i e (j + 1) eb' u' F' → F'.length ≤ 130 * (j + 1 - i) → Q 3 [.int .i64 ((j + 1 : Nat) : Int), .slice x'.1 x'.2.1 x'.2.2, .bool eb', .int .i64 u'] w')
    (h2 : ∀ x' w', j + 1 = e → SS w0 w' x' (DD ++ qi (mb st) (ki kb) s (i + 1) e) y stk → Q 2 [.int .i64 (j : Int), .slice x'.1 x'.2.1 x'.2.2, .bool false] w') :
    sat Try.prog (pretty_Color.t5 (some ⟨r, 0, none⟩) s.size (some ⟨h, 0, none⟩) vA kb (j : Int) x eb u) Q w := by
  have ml : ∀ k, (mb st k).length ≤ 64 := fun k => by
    have : (st k).data.toList.length = (st k).size := Array.length_toList
    show (st k).data.toList.length ≤ 64
    rw [this]; exact hm k
  have hk0 := ml (2 * ki kb)
  have hk1 := ml (2 * ki kb + 1)
  have h12 := ml 12
  have h13 := ml 13
  have hjs : j < s.size := by
    rcases hI with ⟨_, h1, _⟩ | ⟨_, p, _, _, h1, _, h4, h5, _⟩
    · have := strE_le h1; omega
    · have := esc_es h5 h4; omega
  have hDF : (DD ++ F).length ≤ 100000000 - 900 := by rw [List.length_append]; omega
  have wj : IntKind.wrap IntKind.i64 ((j : Int) + 1) = ((j + 1 : Nat) : Int) := by rw [wrap_in (by omega) (by omega)]; omega
  have wj1 : IntKind.wrap IntKind.i64 ((j : Int) - 1) = ((j - 1 : Nat) : Int) := by rw [wrap_in (by omega) (by omega)]; omega
  unfold pretty_Color.t5
  refine s_iteD (fun _ => ?_) (fun c => by omega)
  refine s_byte H I hjs rfl ?_
  -- behind the byte, where it is no quotation mark
  have skip : ∀ {x' : Sl} {w' : World} {eb' : Bool} {u' : Int} {F' : List UInt8}, bt s (j : Int) ≠ 34 → SS w0 w' x' (DD ++ F') y stk → InS st (ki kb) s i e (j + 1) eb' u' F' → F'.length ≤ 130 * (j + 1 - i) →
      sat Try.prog (pretty_Color.t12 (some ⟨r, 0, none⟩) s.size (j : Int) x' eb' u') Q w' := by
    intro x' w' eb' u' F' hne H' hI' hl
    unfold pretty_Color.t12
    refine s_byte H' I hjs rfl ?_
    refine s_iteE (fun c => absurd c hne) (fun _ => s_leaf ?_)
    rw [wj]
    exact h3 x' w' eb' u' F' H' hI' hl
  rcases hI with ⟨rfl, hS, hpre, hq⟩ | ⟨rfl, p, hip, hpj, hje, rfl, h92, hS, hq⟩
  · -- outside of an escape
    have hje : j < e := (strE_le hS).1
    by_cases h92 : bt s (j : Int) = 92
    · -- one begins
      obtain ⟨e1, e2⟩ := esc_es hS h92
      have e3 := es_gt s j
      have hn := hN j h92
      refine s_cut (fun z w' => ∃ F', SS w0 w' z.1 (DD ++ F') y stk ∧ InS st (ki kb) s i e (j + 1) z.2.1 z.2.2.1 F' ∧ F'.length ≤ 130 * (j + 1 - i)) ?_ ?_
      · refine s_iteE (fun _ => ?_) (fun c => absurd h92 c)
        refine s_kmark (c := 1) H I hm (by omega) (by decide) (by decide) (by decide) rfl rfl fun x1 w1 H1 => ?_
        unfold pretty_Color.t6
        refine s_mark 12 H1 I hm (by rw [List.length_append]; omega) (by decide) rfl (by decide) rfl fun x2 w2 H2 => ?_
        refine s_byte H2 I hjs rfl ?_
        refine s_apnd (gb s j) H2 (bt_gb s j) (by simp only [List.length_append]; omega) fun x3 w3 H3 => ?_
        rw [wj]
        refine s_cut (fun z w' => z = (decide (bt s ((j + 1 : Nat) : Int) = 117), ()) ∧ w' = w3) ?_ ?_
        · refine s_iteD (fun _ => s_byte H3 I (by omega) rfl (s_leaf ?_)) (fun c => by omega)
          rw [if_pos rfl]
          exact ⟨(_, ()), rfl, congrArg (fun b : Bool => (b, ())) rfl, rfl⟩
        rintro z w4 ⟨rfl, rfl⟩
        simp only [pretty_Color.t7]
        refine s_cut (fun z w' => z = (((es s j - (j + 1) : Nat) : Int), ()) ∧ w' = w4) ?_ ?_
        · refine s_iteD (fun hu => s_leaf ?_) (fun hu => s_leaf ?_)
          · rw [if_pos rfl]
            have : es s j - (j + 1) = 5 := by unfold es; rw [if_pos hu]; omega
            rw [this]
            exact ⟨(_, ()), rfl, rfl, rfl⟩
          · rw [if_pos rfl]
            have : es s j - (j + 1) = 1 := by unfold es; rw [if_neg hu]; omega
            rw [this]
            exact ⟨(_, ()), rfl, rfl, rfl⟩
        rintro z w5 ⟨rfl, rfl⟩
        simp only [pretty_Color.t8]
        refine s_leaf ?_
        rw [if_pos rfl]
        refine ⟨(x3, true, ((es s j - (j + 1) : Nat) : Int), ()), rfl, F ++ (mb st (2 * ki kb + 1) ++ (mb st 12 ++ [gb s j])), ?_, .inr ⟨rfl, j, hij, Nat.lt_succ_self j, by omega, rfl, h92, hS, ?_⟩, ?_⟩
        · simpa only [List.append_assoc] using H3
        · rw [← hq, qi_es hje h92]
          simp only [mk, List.append_assoc]
          rw [sl_on (show j < es s j by omega) (by omega)]
          rfl
        · simp only [List.length_append, List.length_cons, List.length_nil]; omega
      · rintro ⟨x1, eb1, u1, q1⟩ w1 ⟨F', H1, hI1, hl1⟩
        exact skip (by omega) H1 hI1 hl1
    · -- a byte that stands for itself
      have cut4 : ∀ {K : (Sh.cons .slice (.cons .bool (.cons (.int .i64) .nil))).Ty → T} {A : T}, (∀ x' w', SS w0 w' x' (DD ++ (F ++ [gb s j])) y stk → sat Try.prog (K (x', false, u, ())) Q w') →
          sat Try.prog (.cut 4 (.cons .slice (.cons .bool (.cons (.int .i64) .nil))) (
            .cut 5 (.cons .slice (.cons .bool (.cons (.int .i64) .nil))) (.ite false A (
              .chk (((0 : Int) ≤ (j : Int)) ∧ ((j : Int) < ((s.size : Nat) : Int))) <| .ptr (some ⟨r, 0, none⟩) fun z60 => .load (Addr.add z60 ((Int.toNat (j : Int)) * 1)) (.int .u8) fun i61 =>
              .callD vA #[(Value.slice (x).1 ((x).2).1 ((x).2).2), (Value.int IntKind.u8 i61)] .slice fun (z62 : Sl) => .leaf 5 [(Value.slice (z62).1 ((z62).2).1 ((z62).2).2), (Value.bool false), (Value.int IntKind.i64 u)]))
              (fun z => pretty_Color.t11 z.1 z.2.1 z.2.2.1)) K) Q w := by
        intro K A hK
        refine s_cut (fun z w' => SS w0 w' z.1 (DD ++ (F ++ [gb s j])) y stk ∧ z.2.1 = false ∧ z.2.2.1 = u) ?_ ?_
        · refine s_cut (fun z w' => SS w0 w' z.1 (DD ++ (F ++ [gb s j])) y stk ∧ z.2.1 = false ∧ z.2.2.1 = u) ?_ ?_
          · refine sat_iteF.2 ?_
            refine s_byte H I hjs rfl ?_
            refine s_apnd (gb s j) H (bt_gb s j) (by omega) fun x3 w3 H3 => s_leaf ?_
            rw [if_pos rfl]
            refine ⟨(x3, false, u, ()), rfl, ?_, rfl, rfl⟩
            rw [List.append_assoc] at H3; exact H3
          · rintro ⟨x1, eb1, u1, q1⟩ w1 ⟨H1, rfl, rfl⟩
            unfold pretty_Color.t11
            refine s_leaf ?_
            rw [if_pos rfl]
            exact ⟨(x1, false, u1, ()), rfl, H1, rfl, rfl⟩
        · rintro ⟨x1, eb1, u1, q1⟩ w1 ⟨H1, e1, e2⟩
          have e1 : eb1 = false := e1
          have e2 : u1 = u := e2
          subst e1; subst e2
          exact hK x1 w1 H1
      have red : ∀ {K : (Sh.cons .slice (.cons .bool (.cons (.int .i64) .nil))).Ty → T} {a b c : T}, sat Try.prog (.cut 4 (.cons .slice (.cons .bool (.cons (.int .i64) .nil))) c K) Q w → sat Try.prog (.cut 4 (.cons .slice (.cons .bool (.cons (.int .i64) .nil))) (.ite (bt s (j : Int) == (92 : Int)) a c) K) Q w := by
        intro K a b c hc
        exact sat_mono (.ite (bt s (j : Int) == (92 : Int)) a c) (fun _ _ _ h => h) (s_iteE (fun e => absurd e h92) (fun _ => hc))
      have hnx : qi (mb st) (ki kb) s j e = gb s j :: qi (mb st) (ki kb) s (j + 1) e := qi_on hje h92
      rw [hnx] at hq
      by_cases h34 : bt s (j : Int) = 34
      · -- the closing mark
        have hend : e = j + 1 := by rw [strE_q h34] at hS; cases hS; rfl
        subst hend
        rw [qi_end (Nat.le_refl _)] at hq
        refine red (b := .fail 0) ?_
        refine cut4 fun x1 w1 H1 => ?_
        show sat _ (pretty_Color.t12 (some ⟨r, 0, none⟩) s.size (j : Int) x1 false u) Q w1
        unfold pretty_Color.t12
        refine s_byte H1 I hjs rfl ?_
        refine s_iteE (fun _ => ?_) (fun c => absurd h34 c)
        rw [wj1]
        refine s_loop (fun n z w' => n = 0 ∧ z = (((j - 1 : Nat) : Int), ()) ∧ w' = w1) 0 (((j - 1 : Nat) : Int), ()) rfl ⟨rfl, rfl, rfl⟩ ?_
        rintro n z w2 ⟨rfl, rfl, rfl⟩
        simp only [pretty_Color.t13]
        refine s_byte H1 I (by omega) rfl ?_
        refine s_iteN (fun _ => s_chk (by decide) ?_) (fun c => absurd c hpre)
        have wd : IntKind.wrap IntKind.i64 (((j - 1 : Nat) : Int) - (j : Int)) = -1 := by rw [wrap_in (by omega) (by omega)]; omega
        rw [wd, tmod1]
        refine sat_iteT.2 (s_leaf ?_)
        rw [if_neg (by decide)]
        exact h2 x1 w2 rfl (by rw [← hq]; exact H1)
      · -- another one
        have h32 : ¬ bt s (j : Int) < 32 := fun c => by rw [strE_ctl c] at hS; cases hS
        rw [strE_plain hjs h34 h32 h92] at hS
        refine red (b := .fail 0) ?_
        refine cut4 fun x1 w1 H1 => ?_
        refine skip h34 H1 (.inl ⟨rfl, hS, ?_, ?_⟩) ?_
        · rw [Nat.add_sub_cancel]; exact h92
        · rw [List.append_assoc]; exact hq
        · rw [List.length_append, List.length_cons, List.length_nil]; omega
  · -- inside of an escape
    obtain ⟨e1, e2⟩ := esc_es hS h92
    have e3 := es_gt s p
    obtain ⟨hb92, hb34⟩ := esc_bytes hS h92 hN j hpj hje
    rw [sl_on hje (by omega)] at hq
    refine s_cut (fun z w' => ∃ F', SS w0 w' z.1 (DD ++ F') y stk ∧ InS st (ki kb) s i e (j + 1) z.2.1 z.2.2.1 F' ∧ F'.length ≤ 130 * (j + 1 - i)) ?_ ?_
    · refine s_iteE (fun c => absurd c hb92) (fun _ => ?_)
      refine s_cut (fun z w' => ∃ F', SS w0 w' z.1 (DD ++ F') y stk ∧ InS st (ki kb) s i e (j + 1) z.2.1 z.2.2.1 F' ∧ F'.length ≤ 130 * (j + 1 - i)) ?_ ?_
      · refine sat_iteT.2 ?_
        refine s_byte H I hjs rfl ?_
        refine s_apnd (gb s j) H (bt_gb s j) (by omega) fun x1 w1 H1 => ?_
        rw [List.append_assoc] at H1
        refine s_cut (fun z w' => ∃ F', SS w0 w' z.1 (DD ++ F') y stk ∧ InS st (ki kb) s i e (j + 1) z.2.1 z.2.2.1 F' ∧ F'.length ≤ 130 * (j + 1 - i)) ?_ ?_
        · refine s_iteE (fun hu => ?_) (fun hu => s_leaf ?_)
          · -- its last byte
            have hlast : es s p = j + 1 := by omega
            refine s_mark 13 H1 I hm (by simp only [List.length_append] at hDF ⊢; simp only [List.length_cons, List.length_nil]; omega) (by decide) rfl (by decide) rfl fun x2 w2 H2 => ?_
            refine s_kmark (c := 0) H2 I hm (by simp only [List.length_append] at hDF ⊢; simp only [List.length_cons, List.length_nil]; omega) (by decide) (by decide) (by decide) rfl rfl fun x3 w3 H3 => ?_
            unfold pretty_Color.t9
            refine s_leaf ?_
            rw [if_pos rfl]
            refine ⟨(x3, false, _, ()), rfl, F ++ (gb s j :: (mb st 13 ++ mb st (2 * ki kb))), ?_, .inl ⟨rfl, ?_, ?_, ?_⟩, ?_⟩
            · simpa only [List.append_assoc, List.cons_append, List.nil_append, Nat.add_zero] using H3
            · rw [← hlast]; exact e1
            · rw [Nat.add_sub_cancel]; exact hb92
            · rw [← hq, hlast, sl_nil]; simp only [List.append_assoc, List.cons_append, List.nil_append]
            · simp only [List.length_append, List.length_cons]; omega
          · rw [if_pos rfl]
            have hw : IntKind.wrap IntKind.i64 (((es s p - j : Nat) : Int) - 1) = ((es s p - (j + 1) : Nat) : Int) := by rw [wrap_in (by omega) (by omega)]; omega
            rw [hw]
            refine ⟨(x1, true, _, ()), rfl, F ++ [gb s j], H1, .inr ⟨rfl, p, hip, by omega, by omega, rfl, h92, hS, ?_⟩, ?_⟩
            · rw [← hq]; simp only [List.append_assoc, List.cons_append, List.nil_append]
            · simp only [List.length_append, List.length_cons, List.length_nil]; omega
        · rintro ⟨x2, eb2, u2, q2⟩ w2 h
          unfold pretty_Color.t10
          refine s_leaf ?_
          rw [if_pos rfl]
          exact ⟨(x2, eb2, u2, ()), rfl, h⟩
      · rintro ⟨x2, eb2, u2, q2⟩ w2 h
        unfold pretty_Color.t11
        refine s_leaf ?_
        rw [if_pos rfl]
        exact ⟨(x2, eb2, u2, ()), rfl, h⟩
    · rintro ⟨x1, eb1, u1, q1⟩ w1 ⟨F', H1, hI1, hl1⟩
      by_cases h34 : bt s (j : Int) = 34
      · have hjp := hb34 h34
        show sat _ (pretty_Color.t12 (some ⟨r, 0, none⟩) s.size (j : Int) x1 eb1 u1) Q w1
        unfold pretty_Color.t12
        refine s_byte H1 I hjs rfl ?_
        refine s_iteE (fun _ => ?_) (fun c => absurd h34 c)
        rw [wj1]
        refine s_loop (fun n z w' => (n = 1 ∧ z = (((j - 1 : Nat) : Int), ()) ∨ n = 0 ∧ z = (((j - 2 : Nat) : Int), ())) ∧ w' = w1) 1 (((j - 1 : Nat) : Int), ()) rfl ⟨.inl ⟨rfl, rfl⟩, rfl⟩ ?_
        rintro n z w2 ⟨⟨rfl, rfl⟩ | ⟨rfl, rfl⟩, rfl⟩
        · simp only [pretty_Color.t13]
          refine s_byte H1 I (by omega) rfl ?_
          refine s_iteN (fun c => absurd (by rw [show j - 1 = p by omega]; exact h92) c) (fun _ => s_leaf ?_)
          rw [if_pos rfl]
          have wd : IntKind.wrap IntKind.i64 (((j - 1 : Nat) : Int) - (1 : Int)) = ((j - 2 : Nat) : Int) := by rw [wrap_in (by omega) (by omega)]; omega
          rw [wd]
          exact ⟨0, (((j - 2 : Nat) : Int), ()), rfl, by decide, .inr ⟨rfl, rfl⟩, rfl⟩
        · simp only [pretty_Color.t13]
          refine s_byte H1 I (by omega) rfl ?_
          have hne : bt s ((j - 2 : Nat) : Int) ≠ 92 := fun c => hN (j - 2) c (by rw [show j - 2 + 1 = p by omega]; exact h92)
          refine s_iteN (fun _ => s_chk (by decide) ?_) (fun c => absurd c hne)
          have wd : IntKind.wrap IntKind.i64 (((j - 2 : Nat) : Int) - (j : Int)) = -2 := by rw [wrap_in (by omega) (by omega)]; omega
          rw [wd, tmod2]
          refine sat_iteF.2 (s_leaf ?_)
          rw [if_neg (by decide), wj]
          exact h3 x1 w2 eb1 u1 F' H1 hI1 hl1
      · exact skip h34 H1 hI1 hl1
end Go.Proofs.Ytiganlecnpphmaa.Cc
