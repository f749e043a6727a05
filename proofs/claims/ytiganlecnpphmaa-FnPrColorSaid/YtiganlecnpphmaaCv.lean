/- The reference's colorer: values, what is inside of them, the whole. No statement of the set is proved here. -/
import Derived.Test.YtiganlecnpphmaaCw
namespace Go.Proofs.Ytiganlecnpphmaa.Cw
open Go Go.Proofs Go.RowKit Go.Proofs.Ytiganlecnpphmaa.Rx Go.Proofs.Ytiganlecnpphmaa.Tr Go.Proofs.Ytiganlecnpphmaa.Pl Go.Proofs.Ytiganlecnpphmaa.Pw Go.Proofs.Ytiganlecnpphmaa.Bw Go.Proofs.Ytiganlecnpphmaa.Co
open Go.Proofs.Ytiganlecnpphmaa.Sr (slV tBs tB Sl tP pc PlAt AllAt RowIn spanC loadP storeP Blank_any)

theorem all_get {B : Nat → Prop} {w : World} : ∀ (ks : List PT) (xs : List Value) (i : Nat) (p : PT), AllAt B w ks xs → ks[i]? = some p →
    ∃ na ka : Sl, PlAt B w p (pc p.k p.b p.e na ka) ∧ ∀ j, j < 5 → xs[i * 5 + j]? = (pc p.k p.b p.e na ka)[j]?
  | [], xs, i, p, _, hi => by simp at hi
  | q :: ks, xs, i, p, h, hi => by
    unfold AllAt at h
    obtain ⟨cs, ys, rfl, hp, hr⟩ := h
    have hq := hp
    obtain ⟨k, b, e, ns, kk⟩ := q
    unfold PlAt at hp
    obtain ⟨na, ka, zs, rfl, _⟩ := hp
    cases i with
    | zero =>
      simp only [List.getElem?_cons_zero, Option.some.injEq] at hi
      subst hi
      refine ⟨na, ka, hq, fun j hj => ?_⟩
      rw [Nat.zero_mul, Nat.zero_add, List.getElem?_append_left (by rw [Sr.pc_len]; exact hj)]; rfl
    | succ i =>
      simp only [List.getElem?_cons_succ] at hi
      obtain ⟨na', ka', h1, h2⟩ := all_get ks ys i p hr hi
      refine ⟨na', ka', h1, fun j hj => ?_⟩
      rw [← h2 j hj, List.getElem?_append_right (by rw [Sr.pc_len]; omega), Sr.pc_len]
      congr 1; omega
theorem place_run {w : World} {bk o : Nat} {k b e : Int} {na ka : Sl} (h : ∀ j, j < 5 → w.cell? ⟨bk, o + j, none⟩ = (pc k b e na ka)[j]?) :
    (Instr.loadAt tP (.pointer (some ⟨bk, o, none⟩))).run Try.prog w = .ok (.agg (pc k b e na ka).toArray) w := by
  have hi := info_some (P := Try.prog) (t := tP) (by kernel_rfl)
  have hs : ((Try.prog.info? tP).get (by kernel_rfl)).size = 5 := by kernel_rfl
  have ha : aggT Try.prog tP = some true := by kernel_rfl
  have h0 : w.cell? ⟨bk, o, none⟩ = some (.int .i64 k) := h 0 (by decide)
  have h1 : w.cell? ⟨bk, o + 1, none⟩ = some (.int .i64 b) := h 1 (by decide)
  have h2 : w.cell? ⟨bk, o + 2, none⟩ = some (.int .i64 e) := h 2 (by decide)
  have h3 : w.cell? ⟨bk, o + 3, none⟩ = some (slV na) := h 3 (by decide)
  have h4 : w.cell? ⟨bk, o + 4, none⟩ = some (slV ka) := h 4 (by decide)
  simp only [Instr.loadAt, Instr.sureAddr, loadVar, Sem.run_bind, Sem.run_pure, Result.andThen_ok, run_agg ha, if_true, run_size hi, loadCells, hs]
  simp [loadCellsFrom, h0, h1, h2, h3, h4, pc, slV]
theorem span_get : ∀ (ns : List (Nat × Nat)) (i : Nat) (n : Nat × Nat), ns[i]? = some n → (ns.flatMap spanC)[i * 2]? = some (.int .i64 n.1) ∧ (ns.flatMap spanC)[i * 2 + 1]? = some (.int .i64 n.2)
  | [], i, n, h => by simp at h
  | m :: ns, i, n, h => by
    rw [List.flatMap_cons]
    have hl : (spanC m).length = 2 := rfl
    cases i with
    | zero =>
      simp only [List.getElem?_cons_zero, Option.some.injEq] at h
      subst h
      exact ⟨rfl, rfl⟩
    | succ i =>
      simp only [List.getElem?_cons_succ] at h
      obtain ⟨a, b⟩ := span_get ns i n h
      refine ⟨?_, ?_⟩
      · rw [List.getElem?_append_right (by rw [hl]; omega), hl, show (i + 1) * 2 - 2 = i * 2 by omega]; exact a
      · rw [List.getElem?_append_right (by rw [hl]; omega), hl, show (i + 1) * 2 + 1 - 2 = i * 2 + 1 by omega]; exact b
/-- What 'value' does at a place. -/
def ValC (s : ByteArray) (st : Sy) (p : PT) : Prop := ∀ (N g : Nat) (w : World) (x : Sl) (D : List UInt8) (na ka : Sl), CO s st N g w x D → WfV s p → PlAt (fun q => q < N) w p (pc p.k p.b p.e na ka) → D.length + (colV (mb st) s p).length ≤ 60000000 →
  Calls Try.prog 13 #[.pointer (some ⟨g, 0, none⟩), .agg (pc p.k p.b p.e na ka).toArray] w fun e w' =>
    e = .returned nilT ∧ ∃ x', CO s st N g w' x' (D ++ colV (mb st) s p) ∧ Af g w x w' x'
variable {s : ByteArray} {st : Sy} {N g : Nat} {w w1 w2 : World} {x x1 x2 : Sl} {D : List UInt8}
theorem CO.below (h : CO s st N g w x D) {b : Nat} (hb : b < N) : ¬ (b = g ∨ Own x b) := fun c => by
  rcases c with c | c
  · have := h.low; omega
  · have := (h.row.block b c).1; omega
theorem Af.plAt (a : Af g w x w1 x1) (h : CO s st N g w x D) {p : PT} {cs : List Value} (hp : PlAt (fun q => q < N) w p cs) : PlAt (fun q => q < N) w1 p cs :=
  PlAt.kp a.kp (fun _ _ hb => ⟨hb, h.below hb⟩) hp
/-- What stands between the brackets, from a place on. -/
def Rest (s : ByteArray) (obj first : Bool) (j : Nat) (ns : List (Nat × Nat)) (ks : List PT) (e : Nat) : Prop := if obj then WfM s first j ns ks e else WfE s first j ks e
theorem rest_at {obj first : Bool} {j : Nat} {ns : List (Nat × Nat)} {p : PT} {ks : List PT} {e : Nat} (h : Rest s obj first j ns (p :: ks) e) :
    WfV s p ∧ p.b ≤ s.size ∧ Rest s obj false p.e ns.tail ks e ∧ (obj = true → ∃ n ns', ns = n :: ns' ∧ n.1 ≤ s.size ∧ bt s (n.1 : Int) = 34 ∧ strE s (n.1 + 1) = some n.2 ∧ n.2 ≤ s.size) := by
  cases obj with
  | false =>
    have h : WfE s first j (p :: ks) e := h
    unfold WfE at h
    have := h.2.1.lt
    exact ⟨h.2.1, by omega, h.2.2, fun c => by cases c⟩
  | true =>
    have h : WfM s first j ns (p :: ks) e := h
    unfold WfM at h
    obtain ⟨n, ns', rfl, h1, hq, hs, hc, hb, h2, h3⟩ := h
    have := h2.lt
    have := strE_le hs
    exact ⟨h2, by omega, h3, fun _ => ⟨n, ns', rfl, by omega, hq, hs, by omega⟩⟩
theorem wfE_len : ∀ (ks : List PT) (first : Bool) (j e : Nat), WfE s first j ks e → ks.length + j ≤ e
  | [], first, j, e, h => by
    unfold WfE at h
    have := bl_ge s j
    simp; omega
  | p :: ks, first, j, e, h => by
    unfold WfE at h
    have h1 := wfE_len ks false p.e e h.2.2
    have h2 := h.2.1.lt
    have g1 := bl_ge s j
    have g2 := bl_ge s (bl s j + 1)
    have h3 : j ≤ p.b := by
      cases first with
      | true => have := h.1; simp only [if_true] at this; omega
      | false => have := h.1; simp only [Bool.false_eq_true, if_false] at this; omega
    rw [List.length_cons]; omega
theorem wfM_len : ∀ (ks : List PT) (first : Bool) (j e : Nat) (ns : List (Nat × Nat)), WfM s first j ns ks e → ks.length + j ≤ e
  | [], first, j, e, ns, h => by
    unfold WfM at h
    have := bl_ge s j
    simp; omega
  | p :: ks, first, j, e, ns, h => by
    unfold WfM at h
    obtain ⟨n, ns', rfl, h1, hq, hs, hc, hb, h2, h3⟩ := h
    have h4 := wfM_len ks false p.e e ns' h3
    have h5 := h2.lt
    have g1 := bl_ge s j
    have g2 := bl_ge s (bl s j + 1)
    have g3 := strE_le hs
    have g4 := bl_ge s n.2
    have g5 := bl_ge s (bl s n.2 + 1)
    have h3 : j ≤ n.1 := by
      cases first with
      | true => simp only [if_true] at h1; omega
      | false => simp only [Bool.false_eq_true, if_false] at h1; omega
    rw [List.length_cons]; omega
theorem rest_len {obj first : Bool} {j : Nat} {ns : List (Nat × Nat)} {ks : List PT} {e : Nat} (h : Rest s obj first j ns ks e) : ks.length + j ≤ e := by
  cases obj with
  | false => exact wfE_len ks first j e h
  | true => exact wfM_len ks first j e ns h
theorem colK_on {m : Mk} {obj : Bool} {j : Nat} {ns : List (Nat × Nat)} {p : PT} {ks : List PT} {fin : Nat} :
    colK m s obj j ns (p :: ks) fin = (if obj then gp m s true j (ns.headD (0, 0)).1 ++ (qt m 0 s (ns.headD (0, 0)).1 (ns.headD (0, 0)).2 ++ gp m s true (ns.headD (0, 0)).2 p.b) else gp m s false j p.b) ++ (colV m s p ++ colK m s obj p.e ns.tail ks fin) := by rw [colK]
theorem inside_any {k b e : Nat} {ns : List (Nat × Nat)} {ks : List PT} {na ka : Sl} (hk : k = 5 ∨ k = 6) (hK : ∀ p ∈ ks, ValC s st p) (h : CO s st N g w x D) (hbe : b < e) (hes : e ≤ s.size) (hs : s.size ≤ 10000) (hm : ∀ k, (st k).size ≤ 64)
    (hr : Rest s (decide (k = 6)) true (b + 1) ns ks e) (hn : k = 6 → RowIn (fun q => q < N) w na ns.length (ns.flatMap spanC) 2) {xs : List Value} (hka : RowIn (fun q => q < N) w ka ks.length xs 5) (hall : AllAt (fun q => q < N) w ks xs)
    (hD : D.length + (mk (mb st) 7 [gb s b] ++ (colK (mb st) s (decide (k = 6)) (b + 1) ns ks (e - 1) ++ mk (mb st) 7 [gb s (e - 1)])).length ≤ 60000000) :
    Calls Try.prog 21 #[.pointer (some ⟨g, 0, none⟩), .agg (pc k b e na ka).toArray] w fun en w' =>
      en = .returned nilT ∧ ∃ x', CO s st N g w' x' (D ++ (mk (mb st) 7 [gb s b] ++ (colK (mb st) s (decide (k = 6)) (b + 1) ns ks (e - 1) ++ mk (mb st) 7 [gb s (e - 1)]))) ∧ Af g w x w' x' := by
  have hkn := rest_len hr
  refine spec_colorer_inside.calls _ _ _ _ _ _ _ _ _ _ ?_
  unfold spec_colorer_inside.t
  obtain ⟨w1, hw1⟩ : ∃ w1, w.alloc (.cells (pc k b e na ka).toArray tP (0, 0)) = w1 := ⟨_, rfl⟩
  have b1 : Blk w1 w.heap.size (pc k b e na ka) tP := by rw [← hw1]; exact Blk.new w _ tP
  have k1 : Kp Off w w1 := by rw [← hw1]; exact (Kp.refl _ w).alloc _
  obtain ⟨c1, a1⟩ := h.off k1
  have hg := h.blk.lt
  have nx : ¬ Own x w.heap.size := fun c => by have := (h.row.block _ c).2; omega
  refine Sr.s_allocE w.heap.size rfl w1 hw1 ?_
  simp only [addr_add, Nat.zero_add]
  refine s_load (k : Int) (b1.cell 0) ?_
  have c2 := c1.drew
  have b2 := b1.drew
  have a2 := a1.trans (Af.drew g w1 x)
  refine s_drew (s_ptr ?_)
  generalize w1.drew = w2 at c2 b2 a2
  simp only [addr_add, Nat.zero_add]
  refine s_effS (st 14, st 15, ()) (pair_run (c2.blk.cell 15) (c2.blk.cell 16)) ?_
  refine s_load (b : Int) (b2.cell 1) (s_load (b : Int) (b2.cell 1) ?_)
  have wb : IntKind.wrap IntKind.i64 ((b : Int) + 1) = ((b + 1 : Nat) : Int) := by rw [wrap_in (by omega) (by omega)]; omega
  rw [wb]
  simp only [List.length_append] at hD
  refine s_call (marked_any c2 (Nat.le_succ b) (by omega) (by omega) (hm 14) (hm 15) (by omega)) ?_
  rintro en w3 ⟨rfl, x3, c3, a3⟩
  have b3 := a3.blk b2 (by omega) nx
  have a3' := a2.trans a3
  have e1 : (st 14).data.toList ++ sl s b (b + 1) ++ (st 15).data.toList = mk (mb st) 7 [gb s b] := by
    rw [sl_on (Nat.lt_succ_self b) (by omega), sl_nil]; rfl
  rw [e1] at c3
  refine ⟨(), rfl, ?_⟩
  refine s_load (b : Int) (b3.1.cell 1) (s_load ka (b3.1.cell 4) ?_)
  rw [wb]
  obtain ⟨hkl, hkx, hkr⟩ := hka
  generalize hobj : decide (k = 6) = obj at hr hD ⊢
  have hko : (((k : Nat) : Int) == (6 : Int)) = obj := by
    rw [← hobj]
    rcases hk with rfl | rfl <;> rfl
  refine s_loop (fun n y w' => ∃ (i j : Nat) (first : Bool) (nsr : List (Nat × Nat)) (ksr : List PT) (x' : Sl) (E : List UInt8), n = ks.length - i ∧ y = ((i : Int), (j : Int), ()) ∧ ks.drop i = ksr ∧ i ≤ ks.length ∧ (obj = true → ns.drop i = nsr) ∧ j ≤ s.size ∧
      Rest s obj first j nsr ksr e ∧ E ++ colK (mb st) s obj j nsr ksr (e - 1) = colK (mb st) s obj (b + 1) ns ks (e - 1) ∧ CO s st N g w' x' (D ++ (mk (mb st) 7 [gb s b] ++ E)) ∧ Af g w x w' x' ∧ Blk w' w.heap.size (pc k b e na ka) tP ∧ ¬ Own x' w.heap.size)
    ks.length ((0 : Int), ((b + 1 : Nat) : Int), ()) rfl ⟨0, b + 1, true, ns, ks, x3, [], rfl, rfl, rfl, Nat.zero_le _, fun _ => rfl, by omega, hr, rfl, by rw [List.append_nil]; exact c3, a3', b3.1, b3.2⟩ ?_
  clear c3 a3' b3 a3 c2 a2 b2 hr c1 a1 b1
  rintro n y w4 ⟨i, j, first, nsr, ksr, x4, E, rfl, rfl, hd, hil, hnd, hj, hr, hE, c4, a4, b4, n4⟩
  simp only [spec_colorer_inside.t1]
  rw [hkl, hko]
  have hEl : E.length + (colK (mb st) s obj j nsr ksr (e - 1)).length = (colK (mb st) s obj (b + 1) ns ks (e - 1)).length := by rw [← List.length_append, hE]
  refine s_iteD (fun hlt => ?_) (fun hge => ?_)
  rotate_left
  · -- the closing bracket
    have hi : i = ks.length := by omega
    have hks : ksr = [] := by rw [← hd, hi]; exact List.drop_length
    subst hks
    rw [colK_nil] at hE hEl
    have hje : j ≤ e - 1 := by
      cases obj with
      | false =>
        have hr : WfE s first j [] e := hr
        unfold WfE at hr
        have := bl_ge s j; omega
      | true =>
        have hr : WfM s first j nsr [] e := hr
        unfold WfM at hr
        have := bl_ge s j; omega
    simp only [addr_add, Nat.zero_add]
    refine s_load (e : Int) (b4.cell 2) ?_
    have we : IntKind.wrap IntKind.i64 ((e : Int) - 1) = ((e - 1 : Nat) : Int) := by rw [wrap_in (by omega) (by omega)]; omega
    rw [we]
    refine s_call (gap_any c4 (a := j) (b := e - 1) (by omega) hj (by omega) hm (by simp only [List.length_append]; omega)) ?_
    rintro en w5 ⟨rfl, x5, c5, a5⟩
    have b5 := a5.blk b4 (by omega) n4
    refine ⟨(), rfl, ?_⟩
    have c6 := c5.drew
    have b6 := b5.1.drew
    have a6 := (a4.trans a5).trans (Af.drew g w5 x5)
    refine s_drew (s_ptr ?_)
    generalize w5.drew = w6 at c6 b6 a6
    simp only [addr_add, Nat.zero_add]
    refine s_effS (st 14, st 15, ()) (pair_run (c6.blk.cell 15) (c6.blk.cell 16)) ?_
    refine s_load (e : Int) (b6.cell 2) (s_load (e : Int) (b6.cell 2) ?_)
    rw [we]
    refine s_call (marked_any c6 (a := e - 1) (b := e) (by omega) (by omega) (by omega) (hm 14) (hm 15) (by simp only [List.length_append]; omega)) ?_
    rintro en w7 ⟨rfl, x7, c7, a7⟩
    refine ⟨(), rfl, s_leaf ?_⟩
    rw [if_neg (by decide)]
    refine ⟨rfl, rfl, x7, ?_, a6.trans a7⟩
    have e2 : (st 14).data.toList ++ sl s (e - 1) e ++ (st 15).data.toList = mk (mb st) 7 [gb s (e - 1)] := by
      have hee : e - 1 + 1 = e := by omega
      rw [sl_on (show e - 1 < e by omega) hes, hee, sl_nil]; rfl
    rw [e2] at c7
    rw [← hE]
    simpa only [List.append_assoc] using c7
  have hil' : i < ks.length := by omega
  obtain ⟨p, ksr', hpk⟩ : ∃ p ksr', ksr = p :: ksr' := by
    cases ksr with
    | nil => have := congrArg List.length hd; rw [List.length_drop] at this; simp at this; omega
    | cons p r => exact ⟨p, r, rfl⟩
  subst hpk
  have hpi : ks[i]? = some p := by
    have : (ks.drop i)[0]? = some p := by rw [hd]; rfl
    rwa [List.getElem?_drop, Nat.add_zero] at this
  have hmem : p ∈ ks := List.mem_of_getElem? hpi
  obtain ⟨wfp, hpb, hrest, hobjs⟩ := rest_at hr
  obtain ⟨nap, kap, hpp, hcells⟩ := all_get ks xs i p hall hpi
  rw [colK_on] at hE hEl
  simp only [List.length_append] at hEl
  rcases hkr with hk0 | ⟨gk, hk1, hk2, hk3, hk4⟩
  · omega
  obtain ⟨ka1, ka2, ka3⟩ := ka
  subst hk1
  refine s_chk (by omega) (s_ptr ?_)
  rw [Int.toNat_natCast]
  simp only [addr_add, Nat.zero_add]
  have hcell : ∀ j, j < 5 → w4.cell? ⟨gk, i * 5 + j, none⟩ = (pc p.k p.b p.e nap kap)[j]? := fun j hj => by
    rw [a4.kp.cell (a := ⟨gk, i * 5 + j, none⟩) hk3 (h.below hk2), ← hcells j hj]
    have hlt5 : i * 5 + j < xs.length := by rw [hkx]; omega
    have e5 : xs[i * 5 + j]? = some xs[i * 5 + j] := List.getElem?_eq_getElem hlt5
    rw [e5]
    exact hk4 _ _ e5
  refine s_eff ((p.k : Int), (p.b : Int), (p.e : Int), nap, kap, ()) (place_run hcell) ?_
  -- a copy of the element's place
  obtain ⟨w5, hw5⟩ : ∃ w5, w4.alloc (.cells (pc 0 0 0 (none, 0, 0) (none, 0, 0)).toArray tP (0, 0)) = w5 := ⟨_, rfl⟩
  have b5 : Blk w5 w4.heap.size (pc 0 0 0 (none, 0, 0) (none, 0, 0)) tP := by rw [← hw5]; exact Blk.new w4 _ tP
  have k5 : Kp Off w4 w5 := by rw [← hw5]; exact (Kp.refl _ w4).alloc _
  refine Sr.s_allocE w4.heap.size rfl w5 hw5 ?_
  obtain ⟨w6, h6, b6, k6⟩ := storeP b5 rfl (p.k : Int) (p.b : Int) (p.e : Int) nap kap
  refine s_effU h6 ?_
  have hlt4 := b4.lt
  have k46 : Kp Off w4 w6 := k5.then k6 fun q hq c => by have : q = w4.heap.size := c; omega
  obtain ⟨c6, a6⟩ := c4.off k46
  have a6' := a4.trans a6
  have b46 := k46.blk b4 id
  have nx6 : ¬ Own x4 w4.heap.size := fun c => by have := (c4.row.block _ c).2; omega
  have ng6 : w4.heap.size ≠ g := by have := c4.blk.lt; omega
  have nz6 : w4.heap.size ≠ w.heap.size := by omega
  -- names and gaps
  refine s_cut (fun y w' => ∃ (x' : Sl) (j' : Nat) (F : List UInt8), y = ((j' : Int), ()) ∧ j' ≤ s.size ∧ F ++ gp (mb st) s obj j' p.b = (if obj then gp (mb st) s true j (nsr.headD (0, 0)).1 ++ (qt (mb st) 0 s (nsr.headD (0, 0)).1 (nsr.headD (0, 0)).2 ++ gp (mb st) s true (nsr.headD (0, 0)).2 p.b) else gp (mb st) s false j p.b) ∧
      CO s st N g w' x' (D ++ (mk (mb st) 7 [gb s b] ++ E) ++ F) ∧ Af g w x w' x' ∧ Blk w' w.heap.size (pc k b e na (some ⟨gk, 0, none⟩, ka2, ka3)) tP ∧ ¬ Own x' w.heap.size ∧ Blk w' w4.heap.size (pc p.k p.b p.e nap kap) tP ∧ ¬ Own x' w4.heap.size) ?_ ?_
  · refine s_ite (fun ho => ?_) (fun ho => s_leaf ?_)
    rotate_left
    · rw [if_pos rfl]
      exact ⟨((j : Int), ()), rfl, x4, j, [], rfl, hj, by rw [ho]; rfl, by rw [List.append_nil]; exact c6, a6', b46, n4, b6, nx6⟩
    obtain ⟨nm, ns', rfl, hn1, hq, hstr, hn2⟩ := hobjs ho
    have hk6 : k = 6 := by rw [ho] at hobj; exact of_decide_eq_true hobj
    obtain ⟨hnl, hnx, hnr⟩ := hn hk6
    have hdn := hnd ho
    have hni : ns[i]? = some nm := by
      have : (ns.drop i)[0]? = some nm := by rw [hdn]; rfl
      rwa [List.getElem?_drop, Nat.add_zero] at this
    have hilt : i < ns.length := (List.getElem?_eq_some_iff.1 hni).1
    obtain ⟨s1, s2⟩ := span_get ns i nm hni
    rcases hnr with hn0 | ⟨gn, hg1, hg2, hg3, hg4⟩
    · omega
    obtain ⟨na1, na2, na3⟩ := na
    subst hg1
    have hnl : na2 = ns.length := hnl
    subst ho
    simp only [if_true, List.headD_cons, List.length_append] at hEl
    have nameC : ∀ {wq : World} {xq : Sl}, Af g w x wq xq → wq.cell? ⟨gn, i * 2, none⟩ = some (.int .i64 nm.1) ∧ wq.cell? ⟨gn, i * 2 + 1, none⟩ = some (.int .i64 nm.2) := fun aq =>
      ⟨(aq.kp.cell (a := ⟨gn, i * 2, none⟩) hg3 (h.below hg2)).trans (hg4 _ _ s1), (aq.kp.cell (a := ⟨gn, i * 2 + 1, none⟩) hg3 (h.below hg2)).trans (hg4 _ _ s2)⟩
    refine s_load (some ⟨gn, 0, none⟩, na2, na3) (b46.cell 3) (s_chk (by show (0 : Int) ≤ i ∧ (i : Int) < (na2 : Int); omega) (s_ptr ?_))
    simp only [addr_add, Nat.zero_add, Nat.add_zero]
    refine s_load (nm.1 : Int) (nameC a6').1 ?_
    refine s_call (gap_any c6 (a := j) (b := nm.1) (obj := true) hn1 hj (by omega) hm (by simp only [List.length_append]; omega)) ?_
    rintro en w7 ⟨rfl, x7, c7, a7⟩
    refine ⟨(), rfl, ?_⟩
    have z7 := a7.blk b46 (by omega) n4
    have y7 := a7.blk b6 ng6 nx6
    have a7' := a6'.trans a7
    have c8 := c7.drew
    have z8 := z7.1.drew
    have y8 := y7.1.drew
    have a8 := a7'.trans (Af.drew g w7 x7)
    refine s_drew (s_ptr ?_)
    generalize w7.drew = w8 at c8 z8 y8 a8
    simp only [addr_add, Nat.zero_add, Nat.add_zero]
    refine s_effS (st 0, st 1, ()) (pair_run (c8.blk.cell 1) (c8.blk.cell 2)) ?_
    refine s_load (some ⟨gn, 0, none⟩, na2, na3) (z8.cell 3) (s_chk (by show (0 : Int) ≤ i ∧ (i : Int) < (na2 : Int); omega) (s_ptr ?_))
    simp only [addr_add, Nat.zero_add]
    refine s_load (nm.1 : Int) (nameC a8).1 ?_
    refine s_load (some ⟨gn, 0, none⟩, na2, na3) (z8.cell 3) (s_chk (by show (0 : Int) ≤ i ∧ (i : Int) < (na2 : Int); omega) (s_ptr ?_))
    simp only [addr_add, Nat.zero_add]
    refine s_load (nm.2 : Int) (nameC a8).2 ?_
    refine s_call (quoted_any (k := 0) c8 hq hstr (by omega) hm (by simp only [List.length_append]; omega)) ?_
    rintro en w9 ⟨rfl, x9, c9, a9⟩
    refine ⟨(), rfl, ?_⟩
    have z9 := a9.blk z8 (by omega) z7.2
    have y9 := a9.blk y8 ng6 y7.2
    have a9' := a8.trans a9
    refine s_load (some ⟨gn, 0, none⟩, na2, na3) (z9.1.cell 3) (s_chk (by show (0 : Int) ≤ i ∧ (i : Int) < (na2 : Int); omega) (s_ptr ?_))
    simp only [addr_add, Nat.zero_add]
    refine s_load (nm.2 : Int) (nameC a9').2 (s_leaf ?_)
    rw [if_pos rfl]
    refine ⟨((nm.2 : Int), ()), rfl, x9, nm.2, gp (mb st) s true j nm.1 ++ qt (mb st) 0 s nm.1 nm.2, rfl, hn2, ?_, ?_, a9', z9.1, z9.2, y9.1, y9.2⟩
    · simp only [if_true, List.headD_cons, List.append_assoc]
    · simpa only [List.append_assoc] using c9
  rintro y w7 ⟨x7, j', F, rfl, hj', hF, c7, a7, z7, nz7, y7, ny7⟩
  simp only [spec_colorer_inside.t2]
  have hFl : F.length + (gp (mb st) s obj j' p.b).length = (if obj then gp (mb st) s true j (nsr.headD (0, 0)).1 ++ (qt (mb st) 0 s (nsr.headD (0, 0)).1 (nsr.headD (0, 0)).2 ++ gp (mb st) s true (nsr.headD (0, 0)).2 p.b) else gp (mb st) s false j p.b).length := by rw [← hF, List.length_append]
  simp only [addr_add, Nat.zero_add]
  refine s_load (p.b : Int) (y7.cell 1) ?_
  rw [hko]
  refine s_call (gap_any c7 (a := j') (b := p.b) hpb hj' (by omega) hm (by simp only [List.length_append]; omega)) ?_
  rintro en w8 ⟨rfl, x8, c8, a8⟩
  refine ⟨(), rfl, ?_⟩
  have z8 := a8.blk z7 (by omega) nz7
  have y8 := a8.blk y7 ng6 ny7
  have a8' := a7.trans a8
  refine s_eff ((p.k : Int), (p.b : Int), (p.e : Int), nap, kap, ()) (loadP y8.1) ?_
  refine s_call (hK p hmem N g w8 x8 _ nap kap c8 wfp (a8'.plAt h hpp) (by simp only [List.length_append]; omega)) ?_
  rintro en w9 ⟨rfl, x9, c9, a9⟩
  refine ⟨(), rfl, ?_⟩
  have z9 := a9.blk z8.1 (by omega) z8.2
  have y9 := a9.blk y8.1 ng6 y8.2
  refine s_load (p.e : Int) (y9.1.cell 2) (s_leaf ?_)
  rw [if_pos rfl]
  have wi : IntKind.wrap IntKind.i64 ((i : Int) + 1) = ((i + 1 : Nat) : Int) := by rw [wrap_in (by omega) (by omega)]; omega
  rw [wi]
  have hpl := wfp.lt
  refine ⟨ks.length - (i + 1), (((i + 1 : Nat) : Int), (p.e : Int), ()), rfl, by omega, i + 1, p.e, false, nsr.tail, ksr', x9, E ++ (F ++ gp (mb st) s obj j' p.b) ++ colV (mb st) s p, rfl, rfl, ?_, by omega, ?_, by omega, hrest, ?_, ?_, a8'.trans a9, z9.1, z9.2⟩
  · rw [← List.drop_drop, hd]; rfl
  · intro ho
    rw [← List.drop_drop, hnd ho, List.drop_one]
  · rw [hF, ← hE]; simp only [List.append_assoc]
  · simpa only [List.append_assoc] using c9
/-- A literal's, with its marks. -/
theorem mk_of (k : Nat) (l : List UInt8) : mk (mb st) k l = (st (2 * k)).data.toList ++ l ++ (st (2 * k + 1)).data.toList := rfl
mutual
theorem val_c (hs : s.size ≤ 10000) (hm : ∀ k, (st k).size ≤ 64) : ∀ p : PT, ValC s st p
  | .mk k b e ns ks => by
    intro N g w x D na ka h hw hp hD
    have hlt := hw.lt
    have hlt1 : b < e := hlt.1
    have hlt2 : e ≤ s.size := hlt.2
    show Calls _ _ #[_, .agg (pc (k : Int) (b : Int) (e : Int) na ka).toArray] w _
    refine spec_colorer_value.calls _ _ _ _ _ _ _ _ _ _ ?_
    unfold spec_colorer_value.t
    obtain ⟨w1, hw1⟩ : ∃ w1, w.alloc (.cells (pc k b e na ka).toArray tP (0, 0)) = w1 := ⟨_, rfl⟩
    have b1 : Blk w1 w.heap.size (pc k b e na ka) tP := by rw [← hw1]; exact Blk.new w _ tP
    have k1 : Kp Off w w1 := by rw [← hw1]; exact (Kp.refl _ w).alloc _
    obtain ⟨c1, a1⟩ := h.off k1
    refine Sr.s_allocE w.heap.size rfl w1 hw1 ?_
    simp only [addr_add, Nat.zero_add]
    refine s_load (k : Int) (b1.cell 0) ?_
    have c2 := c1.drew
    have b2 := b1.drew
    have a2 := a1.trans (Af.drew g w1 x)
    have hdr : ∃ w2, w1.drew = w2 := ⟨_, rfl⟩
    obtain ⟨w2, hw2⟩ := hdr
    rw [hw2] at c2 b2 a2
    -- a literal
    have lit : ∀ (j : Nat), D.length ≤ 60000000 → colV (mb st) s (.mk k b e ns ks) = mk (mb st) j (sl s b e) →
        Calls Try.prog 19 #[.pointer (some ⟨g, 0, none⟩), .agg #[.string (st (2 * j)), .string (st (2 * j + 1))], .int .i64 b, .int .i64 e] w2 fun en w' => ∃ y : PUnit, en = .returned ((Sh.tuple .nil).val y) ∧
          sat Try.prog (.leaf 0 []) (fun l vs w' => l = 0 ∧ (Ending.returned (retVal vs) = .returned nilT ∧ ∃ x', CO s st N g w' x' (D ++ colV (mb st) s (.mk k b e ns ks)) ∧ Af g w x w' x')) w' := by
      intro j hDl hcol
      refine Calls.mono (marked_any c2 (a := b) (b := e) (by omega) hlt2 (by omega) (hm (2 * j)) (hm (2 * j + 1)) (by omega)) ?_
      rintro en w3 ⟨rfl, x3, c3, a3⟩
      refine ⟨(), rfl, s_leaf ⟨rfl, rfl, x3, ?_, a2.trans a3⟩⟩
      rw [hcol, mk_of]; exact c3
    have hDl : D.length ≤ 60000000 := by omega
    unfold WfV at hw
    obtain ⟨_, _, ⟨rfl, rfl, hL, hw⟩ | ⟨rfl, rfl, rfl, h1, h2⟩ | ⟨rfl, rfl, h1, h2⟩ | ⟨rfl, h1, h2⟩⟩ := hw
    · rcases hw with ⟨rfl, _⟩ | ⟨rfl, _⟩ | ⟨rfl, _⟩ | ⟨rfl, _⟩
      · refine s_iteE (fun c => by cases c) (fun _ => s_iteE (fun c => by cases c) (fun _ => s_iteE (fun c => by cases c) (fun _ => s_iteE (fun _ => ?_) (fun c => absurd rfl c))))
        refine s_drew (s_ptr ?_)
        rw [hw2]
        simp only [addr_add, Nat.zero_add]
        refine s_effS (st 4, st 5, ()) (pair_run (c2.blk.cell 5) (c2.blk.cell 6)) (s_load (b : Int) (b2.cell 1) (s_load (e : Int) (b2.cell 2) ?_))
        exact lit 2 hDl (by unfold colV; rfl)
      · refine s_iteE (fun _ => ?_) (fun c => absurd rfl c)
        refine s_drew (s_ptr ?_)
        rw [hw2]
        simp only [addr_add, Nat.zero_add]
        refine s_effS (st 10, st 11, ()) (pair_run (c2.blk.cell 11) (c2.blk.cell 12)) (s_load (b : Int) (b2.cell 1) (s_load (e : Int) (b2.cell 2) ?_))
        exact lit 5 hDl (by unfold colV; rfl)
      · refine s_iteE (fun c => by cases c) (fun _ => s_iteE (fun _ => ?_) (fun c => absurd rfl c))
        refine s_drew (s_ptr ?_)
        rw [hw2]
        simp only [addr_add, Nat.zero_add]
        refine s_effS (st 8, st 9, ()) (pair_run (c2.blk.cell 9) (c2.blk.cell 10)) (s_load (b : Int) (b2.cell 1) (s_load (e : Int) (b2.cell 2) ?_))
        exact lit 4 hDl (by unfold colV; rfl)
      · refine s_iteE (fun c => by cases c) (fun _ => s_iteE (fun c => by cases c) (fun _ => s_iteE (fun _ => ?_) (fun c => absurd rfl c)))
        refine s_drew (s_ptr ?_)
        rw [hw2]
        simp only [addr_add, Nat.zero_add]
        refine s_effS (st 6, st 7, ()) (pair_run (c2.blk.cell 7) (c2.blk.cell 8)) (s_load (b : Int) (b2.cell 1) (s_load (e : Int) (b2.cell 2) ?_))
        exact lit 3 hDl (by unfold colV; rfl)
    · refine s_iteE (fun c => by cases c) (fun _ => s_iteE (fun c => by cases c) (fun _ => s_iteE (fun c => by cases c) (fun _ => s_iteE (fun c => by cases c) (fun _ => s_iteE (fun _ => ?_) (fun c => absurd rfl c)))))
      refine s_drew (s_ptr ?_)
      rw [hw2]
      simp only [addr_add, Nat.zero_add]
      refine s_effS (st 2, st 3, ()) (pair_run (c2.blk.cell 3) (c2.blk.cell 4)) (s_load (b : Int) (b2.cell 1) (s_load (e : Int) (b2.cell 2) ?_))
      refine s_call (quoted_any (k := 1) c2 h1 h2 (by omega) hm (by omega)) ?_
      rintro en w3 ⟨rfl, x3, c3, a3⟩
      refine ⟨(), rfl, s_leaf ⟨rfl, rfl, x3, ?_, a2.trans a3⟩⟩
      have e1 : colV (mb st) s (.mk 4 b e [] []) = qt (mb st) 1 s b e := by unfold colV; rfl
      rw [e1]; exact c3
    · refine s_iteE (fun c => by cases c) (fun _ => s_iteE (fun c => by cases c) (fun _ => s_iteE (fun c => by cases c) (fun _ => s_iteE (fun c => by cases c) (fun _ => s_iteE (fun c => by cases c) (fun _ => ?_)))))
      have e1 : colV (mb st) s (.mk 5 b e [] ks) = mk (mb st) 7 [gb s b] ++ (colK (mb st) s (decide (5 = 6)) (b + 1) [] ks (e - 1) ++ mk (mb st) 7 [gb s (e - 1)]) := by unfold colV; rfl
      rw [e1] at hD ⊢
      refine s_eff (((5 : Nat) : Int), (b : Int), (e : Int), na, ka, ()) (loadP b1) ?_
      have hp1 := a1.plAt h hp
      unfold PlAt at hp1
      obtain ⟨na', ka', xs, hpc, hn, hka, hall⟩ := hp1
      obtain ⟨rfl, rfl⟩ : na = na' ∧ ka = ka' := by
        simp only [pc, List.cons.injEq, Value.slice.injEq, and_true] at hpc
        obtain ⟨n1, n2, n3⟩ := na; obtain ⟨m1, m2, m3⟩ := na'; obtain ⟨q1, q2, q3⟩ := ka; obtain ⟨r1, r2, r3⟩ := ka'
        simp_all
      refine s_call (inside_any (.inl rfl) (all_c hs hm ks) c1 hlt1 hlt2 hs hm (show Rest s (decide (5 = 6)) true (b + 1) [] ks e from h2) (fun c => by cases c) hka hall hD) ?_
      rintro en w3 ⟨rfl, x3, c3, a3⟩
      exact ⟨(), rfl, s_leaf ⟨rfl, rfl, x3, c3, a1.trans a3⟩⟩
    · refine s_iteE (fun c => by cases c) (fun _ => s_iteE (fun c => by cases c) (fun _ => s_iteE (fun c => by cases c) (fun _ => s_iteE (fun c => by cases c) (fun _ => s_iteE (fun c => by cases c) (fun _ => ?_)))))
      have e1 : colV (mb st) s (.mk 6 b e ns ks) = mk (mb st) 7 [gb s b] ++ (colK (mb st) s (decide (6 = 6)) (b + 1) ns ks (e - 1) ++ mk (mb st) 7 [gb s (e - 1)]) := by unfold colV; rfl
      rw [e1] at hD ⊢
      refine s_eff (((6 : Nat) : Int), (b : Int), (e : Int), na, ka, ()) (loadP b1) ?_
      have hp1 := a1.plAt h hp
      unfold PlAt at hp1
      obtain ⟨na', ka', xs, hpc, hn, hka, hall⟩ := hp1
      obtain ⟨rfl, rfl⟩ : na = na' ∧ ka = ka' := by
        simp only [pc, List.cons.injEq, Value.slice.injEq, and_true] at hpc
        obtain ⟨n1, n2, n3⟩ := na; obtain ⟨m1, m2, m3⟩ := na'; obtain ⟨q1, q2, q3⟩ := ka; obtain ⟨r1, r2, r3⟩ := ka'
        simp_all
      refine s_call (inside_any (.inr rfl) (all_c hs hm ks) c1 hlt1 hlt2 hs hm (show Rest s (decide (6 = 6)) true (b + 1) ns ks e from h2) (fun _ => hn) hka hall hD) ?_
      rintro en w3 ⟨rfl, x3, c3, a3⟩
      exact ⟨(), rfl, s_leaf ⟨rfl, rfl, x3, c3, a1.trans a3⟩⟩
theorem all_c (hs : s.size ≤ 10000) (hm : ∀ k, (st k).size ≤ 64) : ∀ (ks : List PT), ∀ p ∈ ks, ValC s st p
  | [], p, h => by cases h
  | q :: ks, p, h => by
    rcases List.mem_cons.1 h with e | h
    · rw [e]; exact val_c hs hm q
    · exact all_c hs hm ks p h
end
end Go.Proofs.Ytiganlecnpphmaa.Cw
