/- pretty.Color: its walk, brackets and separators. No statement of the set is proved here. -/
import Derived.Test.YtiganlecnpphmaaCe
namespace Go.Proofs.Ytiganlecnpphmaa.Cc
open Go Go.Proofs Go.RowKit Go.Proofs.Ytiganlecnpphmaa.Rx Go.Proofs.Ytiganlecnpphmaa.Tr Go.Proofs.Ytiganlecnpphmaa.Pl Go.Proofs.Ytiganlecnpphmaa.Pw Go.Proofs.Ytiganlecnpphmaa.Bw Go.Proofs.Ytiganlecnpphmaa.Co
open Go.Proofs.Ytiganlecnpphmaa.Sr (slV tBs tB Sl)
open Go.Proofs.Ytiganlecnpphmaa.Cw (Sy mb qi_end qi_on qi_es esc_es)

variable {w0 w w1 : World} {x x1 y : Sl} {D D1 : List UInt8} {stk : St} {s : ByteArray} {st : Sy} {r h : Nat}
theorem SS.set {p : Bool × Bool} (H : SS w0 w x D y (p :: stk)) : ∃ g c, y = (some ⟨g, 0, none⟩, stk.length + 1, c) ∧ stk.length + 1 ≤ c ∧ w.cell? ⟨g, stk.length * 2, none⟩ = some (.int .u8 (kc p.1)) ∧ w.cell? ⟨g, stk.length * 2 + 1, none⟩ = some (.bool p.2) ∧
    w.frozen? ⟨g, stk.length * 2 + 1, none⟩ = false ∧ (∀ v, SS w0 (w.setCell ⟨g, stk.length * 2 + 1, none⟩ (.bool v)) x D y ((p.1, v) :: stk)) ∧ SS w0 w x D (some ⟨g, 0, none⟩, stk.length, c) stk := by
  obtain ⟨g, h1, h2, h3, h4, h5, h6, h7, h8⟩ := H.stack.top
  refine ⟨g, y.2.2, h1, h3, h4, h5, h6, fun v => ?_, H.kp, H.row, h8, fun q hq hy => ?_⟩
  · have k : Kp (On g) w (w.setCell ⟨g, stk.length * 2 + 1, none⟩ (.bool v)) := (Kp.refl (On g) w).on _ _
    have hb := (H.stack.block g h2).1
    refine ⟨H.kp.then k fun i hi c => ?_, H.row.kp k fun b hb' c => ?_, h7 v, H.disj⟩
    · have : i = g := c
      omega
    · have : b = g := c
      subst this
      exact H.disj _ hb' h2
  · have : q = g := by simpa [Own, slV, Value.ownBlock] using hy
    subst this
    exact H.disj q hq h2
def top1 : St → Bool
  | (k, _) :: _ => k
  | [] => false
theorem wl (n : Nat) (h : n ≤ 100000) : IntKind.wrap IntKind.i64 (((n + 1 : Nat) : Int) - (1 : Int)) = (n : Int) := by rw [wrap_in (by omega) (by omega)]; omega
theorem kc_eq (b : Bool) : (kc b == (123 : Int)) = b := by cases b <;> rfl
/-- The kind of what is open. -/
theorem s_topk {Q : Nat → List Value → World → Prop} (H : SS w0 w x D y stk) (hst : stk.length ≤ 100000) (hQ : Q 2 [.bool (top1 stk)] w) :
    sat Try.prog (.ite (decide (((((y).2).1 : Nat) : Int) > (0 : Int))) (
      .chk (((0 : Int) ≤ (IntKind.wrap IntKind.i64 (((((y).2).1 : Nat) : Int) - (1 : Int)))) ∧ ((IntKind.wrap IntKind.i64 (((((y).2).1 : Nat) : Int) - (1 : Int))) < ((((y).2).1 : Nat) : Int))) <|
      .ptr (y).1 fun (z123 : Addr) =>
      .load (Addr.add (Addr.add z123 ((Int.toNat (IntKind.wrap IntKind.i64 (((((y).2).1 : Nat) : Int) - (1 : Int)))) * 2)) 0) (.int .u8) fun (i124 : Int) =>
      .leaf 2 [(Value.bool (i124 == (123 : Int)))]) (
      .leaf 2 [(Value.bool Bool.false)])) Q w := by
  cases stk with
  | nil =>
    rw [H.stack.len]
    exact s_iteD (fun c => absurd c (by simp)) (fun _ => s_leaf hQ)
  | cons p stk =>
    obtain ⟨g, c, rfl, h2, h3, h4, _⟩ := H.set
    have hst : stk.length + 1 ≤ 100000 := hst
    dsimp only
    rw [wl _ (by omega)]
    refine s_iteD (fun _ => s_chk (by omega) (s_ptr ?_)) (fun c => absurd c (by omega))
    rw [addr_add, addr_add, Int.toNat_natCast, Nat.zero_add, Nat.add_zero]
    refine s_load (kc p.1) h3 (s_leaf ?_)
    rw [kc_eq]
    exact hQ
/-- Whether a name is next. -/
theorem s_topn {Q : Nat → List Value → World → Prop} (H : SS w0 w x D y stk) (hst : stk.length ≤ 100000) (hQ : Q 2 [.bool (ky stk)] w) :
    sat Try.prog (.ite (decide (((((y).2).1 : Nat) : Int) > (0 : Int))) (
      .chk (((0 : Int) ≤ (IntKind.wrap IntKind.i64 (((((y).2).1 : Nat) : Int) - (1 : Int)))) ∧ ((IntKind.wrap IntKind.i64 (((((y).2).1 : Nat) : Int) - (1 : Int))) < ((((y).2).1 : Nat) : Int))) <|
      .ptr (y).1 fun (z123 : Addr) =>
      .load (Addr.add (Addr.add z123 ((Int.toNat (IntKind.wrap IntKind.i64 (((((y).2).1 : Nat) : Int) - (1 : Int)))) * 2)) 1) .bool fun (b11 : Bool) =>
      .leaf 2 [(Value.bool b11)]) (
      .leaf 2 [(Value.bool Bool.false)])) Q w := by
  cases stk with
  | nil =>
    rw [H.stack.len]
    exact s_iteD (fun c => absurd c (by simp)) (fun _ => s_leaf hQ)
  | cons p stk =>
    obtain ⟨g, c, rfl, h2, h3, h4, _⟩ := H.set
    have hst : stk.length + 1 ≤ 100000 := hst
    dsimp only
    rw [wl _ (by omega)]
    refine s_iteD (fun _ => s_chk (by omega) (s_ptr ?_)) (fun c => absurd c (by omega))
    rw [addr_add, addr_add, Int.toNat_natCast, Nat.zero_add]
    exact s_load p.2 h4 (s_leaf hQ)
theorem t15_no {Q : Nat → List Value → World → Prop} {i cap : Nat} {b : Bool} (I : In w0 s st r h) (hi : i < s.size) (H : SS w0 w x D y stk) (hb : b = (decide (0 < stk.length) && (bt s (i : Int) == 125 || bt s (i : Int) == 93)))
    (hK : sat Try.prog (pretty_Color.t16 (some ⟨r, 0, none⟩) s.size cap (some ⟨h, 0, none⟩) vA (i : Int) x y b) Q w) :
    sat Try.prog (pretty_Color.t15 (some ⟨r, 0, none⟩) s.size cap (some ⟨h, 0, none⟩) vA (i : Int) x y false) Q w := by
  unfold pretty_Color.t15
  have hl := H.stack.len
  refine sat_iteF.2 (s_cut (fun z w' => z = (b, ()) ∧ w' = w) ?_ ?_)
  · refine s_byte H I hi rfl (s_iteE (fun e => s_leaf ?_) (fun e => s_byte H I hi rfl (s_iteE (fun e' => s_leaf ?_) (fun e' => s_leaf ?_))))
    · rw [if_pos rfl]
      refine ⟨(b, ()), ?_, rfl, rfl⟩
      show [Value.bool _] = [Value.bool _]
      rw [hb, hl, e]; simp
    · rw [if_pos rfl]
      refine ⟨(b, ()), ?_, rfl, rfl⟩
      show [Value.bool _] = [Value.bool _]
      rw [hb, hl, e']; simp
    · rw [if_pos rfl]
      refine ⟨(b, ()), ?_, rfl, rfl⟩
      show [Value.bool _] = [Value.bool _]
      rw [hb]; simp [e, e']
  · rintro z w' ⟨rfl, rfl⟩; exact hK
theorem t16_no {Q : Nat → List Value → World → Prop} {i cap : Nat} {b : Bool} (I : In w0 s st r h) (hi : i < s.size) (H : SS w0 w x D y stk) (hst : stk.length ≤ 100000) (hb : b = (top1 stk && (bt s (i : Int) == 58 || bt s (i : Int) == 44)))
    (hK : sat Try.prog (pretty_Color.t17 (some ⟨r, 0, none⟩) s.size cap (some ⟨h, 0, none⟩) vA (i : Int) x y b) Q w) :
    sat Try.prog (pretty_Color.t16 (some ⟨r, 0, none⟩) s.size cap (some ⟨h, 0, none⟩) vA (i : Int) x y false) Q w := by
  unfold pretty_Color.t16
  refine sat_iteF.2 (s_cut (fun z w' => z = (b, ()) ∧ w' = w) ?_ ?_)
  · refine s_byte H I hi rfl (s_iteE (fun e => ?_) (fun e => s_byte H I hi rfl (s_iteE (fun e' => ?_) (fun e' => s_leaf ?_))))
    · refine s_topk H hst ?_
      rw [if_pos rfl]
      refine ⟨(b, ()), ?_, rfl, rfl⟩
      show [Value.bool _] = [Value.bool _]
      rw [hb, e]; simp
    · refine s_topk H hst ?_
      rw [if_pos rfl]
      refine ⟨(b, ()), ?_, rfl, rfl⟩
      show [Value.bool _] = [Value.bool _]
      rw [hb, e']; simp
    · rw [if_pos rfl]
      refine ⟨(b, ()), ?_, rfl, rfl⟩
      show [Value.bool _] = [Value.bool _]
      rw [hb]; simp [e, e']
  · rintro z w' ⟨rfl, rfl⟩; exact hK
theorem c_cl {Q : Nat → List Value → World → Prop} {i cap : Nat} {p : Bool × Bool} (I : In w0 s st r h) (hs : s.size ≤ 100000) (hm : ∀ k, (st k).size ≤ 64) (hi : i < s.size)
    (H : SS w0 w x D y (p :: stk)) (hD : D.length + 3000 ≤ 100000000) (hst : stk.length ≤ 100000)
    (hQ : ∀ (x' y' : Sl) w', SS w0 w' x' (D ++ mk (mb st) 7 [gb s i]) y' stk → Q 1 [.int .i64 ((i + 1 : Nat) : Int), .slice x'.1 x'.2.1 x'.2.2, .slice y'.1 y'.2.1 y'.2.2] w') :
    sat Try.prog (pretty_Color.t16 (some ⟨r, 0, none⟩) s.size cap (some ⟨h, 0, none⟩) vA (i : Int) x y true) Q w := by
  have h14 := ml_of hm 14
  have wi : IntKind.wrap IntKind.i64 ((i : Int) + 1) = ((i + 1 : Nat) : Int) := by rw [wrap_in (by omega) (by omega)]; omega
  obtain ⟨g, c, rfl, h2, _, _, _, _, H⟩ := H.set
  unfold pretty_Color.t16
  dsimp only
  rw [wl _ hst]
  refine sat_iteT.2 (s_chk (by omega) ?_)
  refine s_mark 14 H I hm (by omega) (by decide) rfl (by decide) rfl fun x3 w3 H3 => ?_
  refine s_byte H3 I hi rfl (s_apnd (gb s i) H3 (bt_gb s i) (by rw [List.length_append]; omega) fun x4 w4 H4 => ?_)
  refine s_mark 15 H4 I hm (by simp only [List.length_append, List.length_cons, List.length_nil]; omega) (by decide) rfl (by decide) rfl fun x5 w5 H5 => s_leaf ?_
  rw [wi, if_neg (by omega), Int.toNat_natCast]
  refine hQ x5 (some ⟨g, 0, none⟩, stk.length, c) w5 ?_
  rw [mk7]
  simpa only [List.append_assoc] using H5
theorem c_sep {Q : Nat → List Value → World → Prop} {i cap : Nat} {a k : Bool} (I : In w0 s st r h) (hs : s.size ≤ 100000) (hm : ∀ k, (st k).size ≤ 64) (hi : i < s.size)
    (H : SS w0 w x D y ((a, k) :: stk)) (hD : D.length + 3000 ≤ 100000000) (hst : stk.length ≤ 100000)
    (hQ : ∀ (x' : Sl) w', SS w0 w' x' (D ++ mk (mb st) 7 [gb s i]) y ((a, !k) :: stk) → Q 1 [.int .i64 ((i + 1 : Nat) : Int), .slice x'.1 x'.2.1 x'.2.2, .slice y.1 y.2.1 y.2.2] w') :
    sat Try.prog (pretty_Color.t17 (some ⟨r, 0, none⟩) s.size cap (some ⟨h, 0, none⟩) vA (i : Int) x y true) Q w := by
  have h14 := ml_of hm 14
  have wi : IntKind.wrap IntKind.i64 ((i : Int) + 1) = ((i + 1 : Nat) : Int) := by rw [wrap_in (by omega) (by omega)]; omega
  obtain ⟨g, c, rfl, h2, _, h3, h4, H', _⟩ := H.set
  unfold pretty_Color.t17
  dsimp only
  rw [wl _ hst]
  refine sat_iteT.2 (s_chk (by omega) (s_ptr ?_))
  rw [addr_add, addr_add, Int.toNat_natCast, Nat.zero_add]
  refine s_load k h3 (s_chk (by omega) (s_ptr ?_))
  rw [addr_add, addr_add, Nat.zero_add]
  refine s_store h3 h4 ?_
  have H := H' (!k)
  refine s_mark 14 H I hm (by omega) (by decide) rfl (by decide) rfl fun x3 w3 H3 => ?_
  refine s_byte H3 I hi rfl (s_apnd (gb s i) H3 (bt_gb s i) (by rw [List.length_append]; omega) fun x4 w4 H4 => ?_)
  refine s_mark 15 H4 I hm (by simp only [List.length_append, List.length_cons, List.length_nil]; omega) (by decide) rfl (by decide) rfl fun x5 w5 H5 => s_leaf ?_
  rw [wi]
  refine hQ x5 w5 ?_
  rw [mk7]
  simpa only [List.append_assoc] using H5
end Go.Proofs.Ytiganlecnpphmaa.Cc
