/- pretty.Color: its loop. No statement of the set is proved here. -/
import Derived.Test.YtiganlecnpphmaaCg
namespace Go.Proofs.Ytiganlecnpphmaa.Cc
open Go Go.Proofs Go.RowKit Go.Proofs.Ytiganlecnpphmaa.Rx Go.Proofs.Ytiganlecnpphmaa.Tr Go.Proofs.Ytiganlecnpphmaa.Pl Go.Proofs.Ytiganlecnpphmaa.Pw Go.Proofs.Ytiganlecnpphmaa.Bw Go.Proofs.Ytiganlecnpphmaa.Co
open Go.Proofs.Ytiganlecnpphmaa.Sr (slV tBs tB Sl)
open Go.Proofs.Ytiganlecnpphmaa.Cw (Sy mb qi_end qi_on qi_es esc_es)

variable {w0 w w1 : World} {x x1 y : Sl} {D D1 : List UInt8} {stk : St} {s : ByteArray} {st : Sy} {r h : Nat}
theorem beqF {a b : Int} (h : a ≠ b) : (a == b) = false := beq_eq_false_iff_ne.2 h
theorem beqT {a b : Int} (h : a = b) : (a == b) = true := beq_iff_eq.2 h
theorem t2_no {Q : Nat → List Value → World → Prop} {i cap : Nat} {b : Bool} (I : In w0 s st r h) (hi : i < s.size) (H : SS w0 w x D y stk) (h34 : bt s (i : Int) ≠ 34) (hb : b = (bt s (i : Int) == 123 || bt s (i : Int) == 91))
    (hK : sat Try.prog (pretty_Color.t15 (some ⟨r, 0, none⟩) s.size cap (some ⟨h, 0, none⟩) vA (i : Int) x y b) Q w) :
    sat Try.prog (pretty_Color.t2 (some ⟨r, 0, none⟩) s.size cap (some ⟨h, 0, none⟩) vA (i : Int) x y) Q w := by
  unfold pretty_Color.t2
  refine s_iteD (fun _ => s_byte H I hi rfl (s_iteE (fun c => absurd c h34) fun _ => ?_)) (fun c => absurd c (by omega))
  refine s_cut (fun z w' => z = (b, ()) ∧ w' = w) ?_ ?_
  · refine s_byte H I hi rfl (s_iteE (fun e => s_leaf ?_) (fun e => s_byte H I hi rfl (s_leaf ?_)))
    · rw [if_pos rfl]
      exact ⟨(b, ()), by rw [hb, beqT e]; rfl, rfl, rfl⟩
    · rw [if_pos rfl]
      refine ⟨(b, ()), ?_, rfl, rfl⟩
      show [Value.bool _] = [Value.bool _]
      rw [hb, beqF e]; rfl
  · rintro z w' ⟨rfl, rfl⟩; exact hK
theorem run_end {m : Mk} {i : Nat} {out : List UInt8} (hr : Run m s i stk out) (hi : s.size ≤ i) : out = [] := by
  have e := bt_end hi
  cases hr with
  | done _ => rfl
  | str h1 => omega
  | op b h1 => omega
  | cl h1 => omega
  | sep h1 => omega
  | blank h1 => have := isB_iff.1 h1; omega
  | comma h1 => omega
  | lit h1 h2 => omega
theorem t2_step {Q : Nat → List Value → World → Prop} {i cap : Nat} {out : List UInt8} (I : In w0 s st r h) (hs : s.size ≤ 10000) (hm : ∀ k, (st k).size ≤ 64) (hN : NB s) (hcap : s.size ≤ cap) (hr : Run (mb st) s i stk out)
    (H : SS w0 w x D y stk) (hD : (D ++ out).length ≤ 60000000) (hst : stk.length ≤ i)
    (hE : s.size ≤ i → out = [] → Q 0 [.slice x.1 x.2.1 x.2.2] w)
    (hQ : ∀ (x' y' : Sl) w' stk' i' D' out', i < i' → i < s.size → SS w0 w' x' D' y' stk' → Run (mb st) s i' stk' out' → D' ++ out' = D ++ out → stk'.length ≤ i' → Q 1 [.int .i64 ((i' : Nat) : Int), .slice x'.1 x'.2.1 x'.2.2, .slice y'.1 y'.2.1 y'.2.2] w') :
    sat Try.prog (pretty_Color.t2 (some ⟨r, 0, none⟩) s.size cap (some ⟨h, 0, none⟩) vA (i : Int) x y) Q w := by
  rcases Nat.lt_or_ge i s.size with hi | hi
  rotate_left
  · unfold pretty_Color.t2
    exact s_iteD (fun c => absurd c (by omega)) fun _ => s_leaf (hE (by omega) (run_end hr (by omega)))
  have hDl : D.length ≤ 60000000 := by rw [List.length_append] at hD; omega
  cases hr with
  | done h => omega
  | str h1 h2 h3 =>
    unfold pretty_Color.t2
    refine s_iteD (fun _ => s_byte H I hi rfl (s_iteE (fun _ => ?_) (fun c => absurd h1 c))) (fun c => absurd c (by omega))
    refine s_cut (fun z w' => z = (ky stk, ()) ∧ w' = w) (s_topn H (by omega) ?_) ?_
    · rw [if_pos rfl]; exact ⟨(ky stk, ()), rfl, rfl, rfl⟩
    · rintro z w' ⟨rfl, rfl⟩
      have he := strE_le h2
      refine c_str I (by omega) hm hN h1 h2 H (by omega) fun x' w' H' => ?_
      rw [kq_ky] at hQ
      exact hQ x' y w' stk _ _ _ (by omega) hi H' h3 (by rw [List.append_assoc]) (by omega)
  | op b h1 h2 =>
    refine t2_no I hi H (by omega) (b := true) ?_ ?_
    · rcases h1 with ⟨_, e⟩ | ⟨_, e⟩ <;> rw [e] <;> rfl
    · refine c_op I (by omega) hm h1 H (by omega) (by omega) fun x' y' w' H' => ?_
      exact hQ x' y' w' _ _ _ _ (Nat.lt_succ_self i) hi H' h2 (by rw [List.append_assoc]) (by rw [List.length_cons]; omega)
  | @cl _ p stk0 _ h1 h2 =>
    have hst : stk0.length + 1 ≤ i := hst
    refine t2_no I hi H (by omega) (b := false) ?_ (t15_no (b := true) I hi H ?_ ?_)
    · rw [beqF (by omega), beqF (by omega)]; rfl
    · rcases h1 with e | e <;> rw [e] <;> simp
    · refine c_cl I (by omega) hm hi H (by omega) (by omega) fun x' y' w' H' => ?_
      exact hQ x' y' w' _ _ _ _ (Nat.lt_succ_self i) hi H' h2 (by rw [List.append_assoc]) (by omega)
  | @sep _ k stk0 _ h1 h2 =>
    have hst' : stk0.length + 1 ≤ i := hst
    refine t2_no I hi H (by omega) (b := false) ?_ (t15_no (b := false) I hi H ?_ (t16_no (b := true) I hi H (by omega) ?_ ?_))
    · rw [beqF (by omega), beqF (by omega)]; rfl
    · rw [beqF (show bt s (i : Int) ≠ 125 by omega), beqF (show bt s (i : Int) ≠ 93 by omega)]; simp
    · rcases h1 with e | e <;> rw [e] <;> rfl
    · refine c_sep I (by omega) hm hi H (by omega) (by omega) fun x' w' H' => ?_
      exact hQ x' y w' _ _ _ _ (Nat.lt_succ_self i) hi H' h2 (by rw [List.append_assoc]) (by rw [List.length_cons]; omega)
  | blank h1 h2 =>
    have h1 := isB_iff.1 h1
    have hn := num_no (c := bt s (i : Int)) (by omega)
    refine t2_no I hi H (by omega) (b := false) ?_ (t15_no (b := false) I hi H ?_ (t16_no (b := false) I hi H (by omega) ?_ (t17_no (b := false) I hcap hi H hn.symm (fun _ => by omega) (fun c => by omega) ?_)))
    · rw [beqF (by omega), beqF (by omega)]; rfl
    · rw [beqF (show bt s (i : Int) ≠ 125 by omega), beqF (show bt s (i : Int) ≠ 93 by omega)]; simp
    · rw [beqF (show bt s (i : Int) ≠ 58 by omega), beqF (show bt s (i : Int) ≠ 44 by omega)]; simp
    · refine t18_self I (by omega) hi (by omega) H (by omega) fun x' w' H' => ?_
      exact hQ x' y w' _ _ _ _ (Nat.lt_succ_self i) hi H' h2 (by rw [List.append_assoc]; rfl) (by omega)
  | @comma _ k stk0 _ h1 h2 =>
    have hn := num_no (c := bt s (i : Int)) (by omega)
    refine t2_no I hi H (by omega) (b := false) ?_ (t15_no (b := false) I hi H ?_ (t16_no (b := false) I hi H (by omega) rfl (t17_no (b := false) I hcap hi H hn.symm (fun _ => by omega) (fun c => by omega) ?_)))
    · rw [beqF (by omega), beqF (by omega)]; rfl
    · rw [beqF (show bt s (i : Int) ≠ 125 by omega), beqF (show bt s (i : Int) ≠ 93 by omega)]; simp
    · refine t18_self I (by omega) hi (by omega) H (by omega) fun x' w' H' => ?_
      exact hQ x' y w' _ _ _ _ (Nat.lt_succ_self i) hi H' h2 (by rw [List.append_assoc]; rfl) (by omega)
  | @lit _ e _ k rest h1 h2 h3 h4 h5 h6 =>
    have hc : (bt s (i : Int) = 45 ∨ (48 ≤ bt s (i : Int) ∧ bt s (i : Int) ≤ 57)) ∨ bt s (i : Int) = 116 ∨ bt s (i : Int) = 102 ∨ (bt s (i : Int) = 110 ∧ i + 1 < s.size ∧ bt s ((i + 1 : Nat) : Int) = 117) := by
      rcases h5 with ⟨_, g⟩ | ⟨_, g⟩ | ⟨_, g⟩ | ⟨_, g⟩
      · exact .inl (num_iff.1 g)
      · exact .inr (.inl g)
      · exact .inr (.inr (.inl g))
      · exact .inr (.inr (.inr g))
    have hk : k = 2 ∨ k = 3 ∨ k = 4 ∨ k = 5 := by omega
    have hm2 := ml_of hm (2 * k)
    refine t2_no I hi H (by omega) (b := false) ?_ (t15_no (b := false) I hi H ?_ (t16_no (b := false) I hi H (by omega) ?_ (t17_no I hcap hi H rfl (fun g => ?_) (fun c => by omega) ?_)))
    · rw [beqF (by omega), beqF (by omega)]; rfl
    · rw [beqF (show bt s (i : Int) ≠ 125 by omega), beqF (show bt s (i : Int) ≠ 93 by omega)]; simp
    · rw [beqF (show bt s (i : Int) ≠ 58 by omega), beqF (show bt s (i : Int) ≠ 44 by omega)]; simp
    · rcases hc with c | c
      · rw [num_iff.2 c] at g; cases g
      · omega
    · refine t18_lit I hm hi h5 rfl H (by omega) fun x1 w1 H1 => ?_
      refine c_lit I (by omega) hm h1 h2 h3 h4 hk H1 (by rw [List.length_append]; omega) fun x' w' i' hi' H' => ?_
      refine hQ x' y w' _ i' _ rest (by omega) hi H' ?_ ?_ (by omega)
      · rcases hi' with rfl | ⟨rfl, rfl⟩
        · exact h6
        · rw [run_end h6 (Nat.le_refl _)]
          exact .done (by omega)
      · simp only [mk, List.append_assoc]
theorem color_any {cap : Nat} {out : List UInt8} (I : In w s st r h) (hq : w.cell? ⟨h, 16, none⟩ = some Value.nilFunc) (hs : s.size ≤ 10000) (hm : ∀ k, (st k).size ≤ 64) (hN : NB s) (hcap : s.size ≤ cap) (hr : Run (mb st) s 0 [] out) (ho : out.length ≤ 60000000) :
    Calls Try.prog 11 #[.slice (some ⟨r, 0, none⟩) s.size cap, .pointer (some ⟨h, 0, none⟩)] w fun e w' => ∃ x' : Sl, e = .returned (slV x') ∧ BR w' w.heap.size x' out ∧ Kp Off w w' := by
  refine pretty_Color.calls _ _ _ _ ?_
  unfold pretty_Color.t
  refine s_ptr ?_
  rw [addr_add]
  refine s_load Value.nilFunc hq ?_
  refine s_eff (w' := w) true (by kernel_rfl) ?_
  refine s_cut (fun z w' => z = (vA, ()) ∧ w' = w) (sat_iteT.2 (s_leaf ?_)) ?_
  · rw [if_pos rfl]; exact ⟨(vA, ()), rfl, rfl, rfl⟩
  rintro z w' ⟨rfl, hw⟩
  have hw := hw.symm
  subst hw
  show sat _ (pretty_Color.t1 _ _ _ _ vA) _ _
  unfold pretty_Color.t1
  refine s_loop (fun n z w' => ∃ (i : Nat) (stk : St) (D rest : List UInt8), n = s.size + 1 - i ∧ z.1 = (i : Int) ∧ SS w w' z.2.1 D z.2.2.1 stk ∧ Run (mb st) s i stk rest ∧ D ++ rest = out ∧ stk.length ≤ i)
    (s.size + 1) ((0 : Int), (none, 0, 0), (none, 0, 0), ()) rfl ⟨0, [], [], out, rfl, rfl, ⟨Kp.refl _ _, Bw.BR.nil _ _, SR.nil _ _, fun q hq => by simp [Own, slV, Value.ownBlock] at hq⟩, hr, rfl, Nat.le_refl _⟩ ?_
  rintro n ⟨zi, x1, y1, zu⟩ w1 ⟨i, stk, D, rest, rfl, hzi, H, hr, hDr, hst⟩
  have hzi : zi = (i : Int) := hzi
  subst hzi
  refine t2_step I hs hm hN hcap hr H (by rw [hDr]; exact ho) hst ?_ ?_
  · intro _ h0
    rw [if_neg (by decide)]
    subst h0
    rw [List.append_nil] at hDr
    subst hDr
    exact ⟨rfl, x1, rfl, H.row, H.kp⟩
  · intro x' y' w' stk' i' D' out' hlt hlt2 H' hr' he hst'
    rw [if_pos rfl]
    exact ⟨s.size + 1 - i', ((i' : Int), x', y', ()), rfl, by omega, i', stk', D', out', rfl, rfl, H', hr', he.trans hDr, hst'⟩
end Go.Proofs.Ytiganlecnpphmaa.Cc
