/- pretty.Color: its walk. No statement of the set is proved here. -/
import Derived.Test.YtiganlecnpphmaaCd
namespace Go.Proofs.Ytiganlecnpphmaa.Cc
open Go Go.Proofs Go.RowKit Go.Proofs.Ytiganlecnpphmaa.Rx Go.Proofs.Ytiganlecnpphmaa.Tr Go.Proofs.Ytiganlecnpphmaa.Pl Go.Proofs.Ytiganlecnpphmaa.Pw Go.Proofs.Ytiganlecnpphmaa.Bw Go.Proofs.Ytiganlecnpphmaa.Co
open Go.Proofs.Ytiganlecnpphmaa.Sr (slV tBs tB Sl)
open Go.Proofs.Ytiganlecnpphmaa.Cw (Sy mb qi_end qi_on qi_es esc_es)

variable {w0 w w1 : World} {x x1 y : Sl} {D D1 : List UInt8} {stk : St} {s : ByteArray} {st : Sy} {r h : Nat}
/-- Whether the next string is a name. -/
def ky : St → Bool
  | (_, k) :: _ => k
  | [] => false
theorem kq_ky : ∀ stk : St, kq stk = ki (ky stk)
  | [] => rfl
  | (_, true) :: _ => rfl
  | (_, false) :: _ => rfl
theorem ml_of (hm : ∀ k, (st k).size ≤ 64) (k : Nat) : (mb st k).length ≤ 64 := by
  have : (st k).data.toList.length = (st k).size := Array.length_toList
  show (st k).data.toList.length ≤ 64
  rw [this]; exact hm k
theorem c_str {Q : Nat → List Value → World → Prop} {i e : Nat} {kb : Bool} (I : In w0 s st r h) (hs : s.size ≤ 100000) (hm : ∀ k, (st k).size ≤ 64) (hN : NB s) (h34 : bt s (i : Int) = 34) (he : strE s (i + 1) = some e)
    (H : SS w0 w x D y stk) (hD : D.length + 500 * s.size + 3000 ≤ 100000000)
    (hQ : ∀ x' w', SS w0 w' x' (D ++ qt (mb st) (ki kb) s i e) y stk → Q 1 [.int .i64 (e : Int), .slice x'.1 x'.2.1 x'.2.2, .slice y.1 y.2.1 y.2.2] w') :
    sat Try.prog (pretty_Color.t3 (some ⟨r, 0, none⟩) s.size (some ⟨h, 0, none⟩) vA (i : Int) x y kb) Q w := by
  have hle := strE_le he
  have hk0 := ml_of hm (2 * ki kb)
  have hk1 := ml_of hm (2 * ki kb + 1)
  unfold pretty_Color.t3
  refine s_kmark (c := 0) H I hm (by omega) (by decide) (by decide) (by decide) rfl rfl fun x1 w1 H1 => ?_
  rw [Nat.add_zero] at H1
  unfold pretty_Color.t4
  refine s_apnd 34 H1 rfl (by rw [List.length_append]; omega) fun x2 w2 H2 => ?_
  have wi : IntKind.wrap IntKind.i64 ((i : Int) + 1) = ((i + 1 : Nat) : Int) := by rw [wrap_in (by omega) (by omega)]; omega
  rw [wi]
  have hg34 : gb s i = 34 := by
    have := bt_gb s i
    rw [h34] at this
    exact UInt8.toNat_inj.1 (by show (gb s i).toNat = 34; omega)
  have hq0 : qi (mb st) (ki kb) s i e = 34 :: qi (mb st) (ki kb) s (i + 1) e := by rw [qi_on (by omega) (by omega), hg34]
  refine s_cut (fun z w' => z.1 = ((e - 1 : Nat) : Int) ∧ z.2.2.1 = false ∧ SS w0 w' z.2.1 (D ++ mb st (2 * ki kb) ++ [34] ++ qi (mb st) (ki kb) s (i + 1) e) y stk) ?_ ?_
  · refine s_loop (fun n z w' => ∃ (j : Nat) (F : List UInt8), n = s.size + 1 - j ∧ z.1 = (j : Int) ∧ i < j ∧ j ≤ e ∧ InS st (ki kb) s i e j z.2.2.1 z.2.2.2.1 F ∧ F.length ≤ 130 * (j - i) ∧ SS w0 w' z.2.1 (D ++ mb st (2 * ki kb) ++ [34] ++ F) y stk)
      (s.size + 1 - (i + 1)) (((i + 1 : Nat) : Int), x2, false, (0 : Int), ()) rfl ⟨i + 1, [], rfl, rfl, Nat.lt_succ_self i, by omega, .inl ⟨rfl, he, by rw [Nat.add_sub_cancel]; omega, rfl⟩, by simp, by rw [List.append_nil]; exact H2⟩ ?_
    rintro n ⟨zj, x3, eb, u, zu⟩ w3 ⟨j, F, rfl, hzj, hij, hje, hI, hF, H3⟩
    have hzj : zj = (j : Int) := hzj
    subst hzj
    refine in_round I hs hm hN hij hle.2 hI H3 (by simp only [List.length_append, List.length_cons, List.length_nil]; omega) hF ?_ ?_
    · intro x' w' eb' u' F' H' hI' hl'
      rw [if_pos rfl]
      have hj1 : j + 1 ≤ e := by
        rcases hI' with ⟨_, h1, _⟩ | ⟨_, p, _, _, h1, _, h4, h5, _⟩
        · exact Nat.le_of_lt (strE_le h1).1
        · have := esc_es h5 h4; omega
      exact ⟨s.size + 1 - (j + 1), (((j + 1 : Nat) : Int), x', eb', u', ()), rfl, by omega, j + 1, F', rfl, rfl, by omega, hj1, hI', hl', H'⟩
    · intro x' w' hje' H'
      rw [if_neg (by decide), if_pos rfl]
      exact ⟨((j : Int), x', false, ()), rfl, by show (j : Int) = ((e - 1 : Nat) : Int); omega, rfl, H'⟩
  rintro ⟨ze, x4, eb, zu⟩ w4 ⟨h1, h2, H4⟩
  have h1 : ze = ((e - 1 : Nat) : Int) := h1
  have h2 : eb = false := h2
  subst h1; subst h2
  have H4 : SS w0 w4 x4 (D ++ mb st (2 * ki kb) ++ [34] ++ qi (mb st) (ki kb) s (i + 1) e) y stk := H4
  show sat _ (pretty_Color.t14 (some ⟨h, 0, none⟩) y kb ((e - 1 : Nat) : Int) x4 false) Q w4
  unfold pretty_Color.t14
  have we : IntKind.wrap IntKind.i64 (((e - 1 : Nat) : Int) + (1 : Int)) = (e : Int) := by rw [wrap_in (by omega) (by omega)]; omega
  rw [we]
  have hql := Co.qi_len (m := mb st) (s := s) (ml_of hm) (ki kb) _ (i + 1) e (Nat.le_refl _)
  have hDl : (D ++ mb st (2 * ki kb) ++ [34] ++ qi (mb st) (ki kb) s (i + 1) e).length ≤ 100000000 := by
    simp only [List.length_append, List.length_cons, List.length_nil]; omega
  have fin : ∀ x' w', SS w0 w' x' (D ++ mb st (2 * ki kb) ++ [34] ++ qi (mb st) (ki kb) s (i + 1) e ++ mb st (2 * ki kb + 1)) y stk → SS w0 w' x' (D ++ qt (mb st) (ki kb) s i e) y stk := by
    intro x' w' H'
    unfold qt
    rw [hq0]
    simpa only [List.append_assoc, List.cons_append, List.nil_append] using H'
  refine sat_iteF.2 (s_ite (fun hb => ?_) (fun hb => ?_))
  · exact s_mark (2 * ki kb + 1) H4 I hm hDl (by decide) (by rw [hb]; rfl) (by rw [hb]; decide) rfl fun x5 w5 H5 => s_leaf (hQ x5 w5 (fin x5 w5 H5))
  · exact s_mark (2 * ki kb + 1) H4 I hm hDl (by decide) (by rw [hb]; rfl) (by rw [hb]; decide) rfl fun x5 w5 H5 => s_leaf (hQ x5 w5 (fin x5 w5 H5))
/-- Marks about one byte. -/
theorem mk7 (s : ByteArray) (i : Nat) : mk (mb st) 7 [gb s i] = mb st 14 ++ [gb s i] ++ mb st 15 := rfl
theorem SS.push {p : Bool × Bool} {v : Value} (H : SS w0 w x D y stk) (hv : v = .agg (stC p).toArray) (hn : stk.length + 1 ≤ 4294967296) :
    ∃ w1, (Instr.buildSlice tKs 1 #[(0, v)]).run Try.prog w = .ok (.slice (some ⟨w.heap.size, 0, none⟩) 1 1) w1 ∧
      ∃ (y' : Sl) (w2 : World), (Builtin.append_ #[tKs, tKs] tKs #[slV y, .slice (some ⟨w.heap.size, 0, none⟩) 1 1]).run Try.prog w1 = .ok (slV y') w2 ∧ SS w0 w2 x D y' (p :: stk) := by
  subst hv
  obtain ⟨w1, h1, a, c, w2, h2, h3, h4, h5⟩ := push_run (P := Try.prog) (t := tKs) (e := tK) (z0 := .agg #[.int .u8 0, .bool false]) (size := 2) Try.underlying50 (info_some (by kernel_rfl)) (by kernel_rfl) (by kernel_rfl)
    (of_decide_eq_true (by kernel_rfl)) rfl (by decide) (by decide) H.stack (.agg (stC p).toArray) (stC p) rfl rfl (fun u hu => by
      simp only [stC, List.mem_cons, List.not_mem_nil, or_false] at hu
      rcases hu with rfl | rfl <;> rfl) hn H.kp.size
  refine ⟨w1, h1, (a, stk.length + 1, c), w2, h2, ?_, ?_, ?_, ?_⟩
  · exact H.kp.then h4 fun i hi c => by have := (H.stack.block i c).1; omega
  · exact H.row.kp h4 fun b hb c => H.disj b hb c
  · show w2.ownsRow _ _ _ _ _ _
    rw [cells_cons]; exact h3
  · intro q hq hy
    rcases h5 q hy with d | d
    · exact H.disj q hq d
    · have := (H.row.block q hq).2; omega
theorem c_op {Q : Nat → List Value → World → Prop} {i cap : Nat} {b : Bool} (I : In w0 s st r h) (hs : s.size ≤ 100000) (hm : ∀ k, (st k).size ≤ 64) (hb : b = true ∧ bt s (i : Int) = 123 ∨ b = false ∧ bt s (i : Int) = 91)
    (H : SS w0 w x D y stk) (hD : D.length + 3000 ≤ 100000000) (hst : stk.length ≤ 100000)
    (hQ : ∀ x' y' w', SS w0 w' x' (D ++ mk (mb st) 7 [gb s i]) y' ((b, b) :: stk) → Q 1 [.int .i64 ((i + 1 : Nat) : Int), .slice x'.1 x'.2.1 x'.2.2, .slice y'.1 y'.2.1 y'.2.2] w') :
    sat Try.prog (pretty_Color.t15 (some ⟨r, 0, none⟩) s.size cap (some ⟨h, 0, none⟩) vA (i : Int) x y true) Q w := by
  have hi : i < s.size := lt_of_bt (by omega)
  have h14 := ml_of hm 14
  have wi : IntKind.wrap IntKind.i64 ((i : Int) + 1) = ((i + 1 : Nat) : Int) := by rw [wrap_in (by omega) (by omega)]; omega
  unfold pretty_Color.t15
  refine sat_iteT.2 (s_drew ?_)
  have H := H.drew
  generalize w.drew = w at H
  refine s_byte H I hi rfl (s_byte H I hi rfl ?_)
  obtain ⟨w1, h1, y1, w2, h2, H2⟩ := H.push (p := (b, b)) (v := .agg #[.int .u8 (bt s (i : Int)), .bool (bt s (i : Int) == (123 : Int))]) (by
    rcases hb with ⟨rfl, e⟩ | ⟨rfl, e⟩ <;> rw [e] <;> rfl) (by omega)
  refine s_eff (some ⟨w.heap.size, 0, none⟩, 1, 1) h1 (s_eff y1 h2 ?_)
  refine s_mark 14 H2 I hm (by omega) (by decide) rfl (by decide) rfl fun x3 w3 H3 => ?_
  refine s_byte H3 I hi rfl (s_apnd (gb s i) H3 (bt_gb s i) (by rw [List.length_append]; omega) fun x4 w4 H4 => ?_)
  refine s_mark 15 H4 I hm (by simp only [List.length_append, List.length_cons, List.length_nil]; omega) (by decide) rfl (by decide) rfl fun x5 w5 H5 => s_leaf ?_
  rw [wi]
  refine hQ x5 y1 w5 ?_
  rw [mk7]
  simpa only [List.append_assoc] using H5
theorem SS.pop {p : Bool × Bool} (H : SS w0 w x D y (p :: stk)) : ∃ g, y = (some ⟨g, 0, none⟩, stk.length + 1, y.2.2) ∧ stk.length + 1 ≤ y.2.2 ∧ SS w0 w x D (some ⟨g, 0, none⟩, stk.length, y.2.2) stk := by
  obtain ⟨g, h1, h2, h3, _, _, _, _, h4⟩ := H.stack.top
  exact ⟨g, h1, h3, H.kp, H.row, h4, fun q hq hy => by
    have : q = g := by simpa [Own, slV, Value.ownBlock] using hy
    subst this
    exact H.disj q hq h2⟩
end Go.Proofs.Ytiganlecnpphmaa.Cc
