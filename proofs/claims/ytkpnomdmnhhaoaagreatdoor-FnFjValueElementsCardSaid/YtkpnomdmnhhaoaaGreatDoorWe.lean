/- The reference's Same over two trees in memory that are one tree; Levels. No statement of the set is proved here. -/
import Derived.Test.YtkpnomdmnhhaoaaGreatDoorZk
namespace Go.Proofs.YtkpnomdmnhhaoaaGreatDoor.Nt
open Go Go.Proofs Go.RowKit Go.Proofs.YtkpnomdmnhhaoaaGreatDoor.Rx Go.Proofs.YtkpnomdmnhhaoaaGreatDoor.Tr Go.Proofs.YtkpnomdmnhhaoaaGreatDoor.Pl Go.Proofs.YtkpnomdmnhhaoaaGreatDoor.Pw
open Go.Proofs.YtkpnomdmnhhaoaaGreatDoor.Sr (Sl slV RowIn)
open Go.Proofs.YtkpnomdmnhhaoaaGreatDoor.Lj (Any)

theorem nc_inj {k : Int} {t : ByteArray} {a b a' b' : Sl} (h : nc k t a b = nc k t a' b') : a = a' ∧ b = b' := by
  unfold nc at h
  simp only [List.cons.injEq, Value.slice.injEq, true_and, and_true] at h
  obtain ⟨⟨x1, x2, x3⟩, y1, y2, y3⟩ := h
  exact ⟨Prod.ext x1 (Prod.ext x2 x3), Prod.ext y1 (Prod.ext y2 y3)⟩
theorem NdAt.rows {B : Nat → Prop} {w : World} {n : NT} {a b : Sl} (h : NdAt B w n (nc n.k n.t a b)) : ∃ xs : List Value, RowIn B w a n.keys.length (n.keys.map strV) 1 ∧ RowIn B w b n.kids.length xs 4 ∧ AllN B w n.kids xs := by
  obtain ⟨a', b', xs, he, h1, h2, h3⟩ := h.inv
  obtain ⟨rfl, rfl⟩ := nc_inj he
  exact ⟨xs, h1, h2, h3⟩
theorem same_any : ∀ (N : Nat) (n : NT) (w : World) (B B' : Nat → Prop) (a b a' b' : Sl), SizeOf.sizeOf n < N → Sm n → NdAt B w n (nc n.k n.t a b) → NdAt B' w n (nc n.k n.t a' b') →
    Calls Tryz.prog 9 #[.agg (nc n.k n.t a b).toArray, .agg (nc n.k n.t a' b').toArray] w fun e w' => e = .returned (.bool true) ∧ Kp Off w w'
  | 0, n, w, B, B', a, b, a', b', h, _, _, _ => absurd h (Nat.not_lt_zero _)
  | N + 1, n, w, B, B', a, b, a', b', hN, hsm, hn, hn' => by
    obtain ⟨m1, m2, m3⟩ := hsm.inv
    obtain ⟨xs, hr1, hr2, hall⟩ := hn.rows
    obtain ⟨xs', hr1', hr2', hall'⟩ := hn'.rows
    refine spec_Same.calls _ _ _ _ _ _ _ _ _ _ _ _ _ _ _ _ ?_
    unfold spec_Same.t
    refine s_alloc ?_
    have b0 := Blk.new w (nc n.k n.t a b) tN
    have k0 : Kp Off w (w.alloc (.cells (nc n.k n.t a b).toArray tN (0, 0))) := (Kp.refl Off w).alloc _
    have z0 : (w.alloc (.cells (nc n.k n.t a b).toArray tN (0, 0))).heap.size = w.heap.size + 1 := by simp
    show sat _ _ _ (w.alloc (.cells (nc n.k n.t a b).toArray tN (0, 0)))
    generalize w.alloc (.cells (nc n.k n.t a b).toArray tN (0, 0)) = w1 at k0 b0 z0
    refine s_alloc ?_
    have b1 := Blk.new w1 (nc n.k n.t a' b') tN
    have k1 : Kp Off w1 (w1.alloc (.cells (nc n.k n.t a' b').toArray tN (0, 0))) := (Kp.refl Off w1).alloc _
    rw [z0] at b1 ⊢
    show sat _ _ _ (w1.alloc (.cells (nc n.k n.t a' b').toArray tN (0, 0)))
    generalize w1.alloc (.cells (nc n.k n.t a' b').toArray tN (0, 0)) = w2 at k1 b1
    have b0 := k1.blk b0 id
    have k0 := k0.trans k1
    have hl1 := hr1.1
    have hl2 := hr2.1
    have hl1' := hr1'.1
    have hl2' := hr2'.1
    clear k1 z0
    refine s_cut (fun z w' => z.1 = false ∧ w2 = w') ?_ ?_
    · refine s_load (n.k : Int) (by rw [addr_add, Nat.zero_add, b0.cell]; rfl) (s_load (n.k : Int) (by rw [addr_add, Nat.zero_add, b1.cell]; rfl) (s_iteN (fun g => absurd rfl g) fun _ => ?_))
      refine s_load n.t (by rw [addr_add, Nat.zero_add, b0.cell]; rfl) (s_load n.t (by rw [addr_add, Nat.zero_add, b1.cell]; rfl) ?_)
      rw [strEq_iff.2 rfl]
      refine sat_iteF.2 (s_load a (by rw [addr_add, Nat.zero_add, b0.cell]; rfl) (s_load a' (by rw [addr_add, Nat.zero_add, b1.cell]; rfl) (s_iteN (fun g => absurd (by rw [hl1, hl1']) g) fun _ => ?_)))
      refine s_load b (by rw [addr_add, Nat.zero_add, b0.cell]; rfl) (s_load b' (by rw [addr_add, Nat.zero_add, b1.cell]; rfl) (s_leaf ?_))
      rw [if_pos rfl]
      refine ⟨(false, ()), ?_, rfl, rfl⟩
      rw [hl2, hl2']
      have : (((n.kids.length : Nat) : Int) != ((n.kids.length : Nat) : Int)) = false := by simp
      rw [this]; rfl
    rintro ⟨bb, u⟩ w' ⟨hbb, rfl⟩
    have hbb : bb = false := hbb
    subst hbb
    show sat _ (spec_Same.t1 ⟨w.heap.size, 0, none⟩ ⟨w.heap.size + 1, 0, none⟩ false) _ _
    unfold spec_Same.t1
    refine sat_iteF.2 (s_loop (fun m z w' => ∃ i : Nat, m = n.keys.length - i ∧ z = ((i : Int), ()) ∧ i ≤ n.keys.length ∧ Blk w' w.heap.size (nc n.k n.t a b) tN ∧ Blk w' (w.heap.size + 1) (nc n.k n.t a' b') tN ∧ Kp Off w w') n.keys.length ((0 : Int), ()) rfl ⟨0, rfl, rfl, Nat.zero_le _, b0, b1, k0⟩ ?_)
    clear b0 b1 k0
    rintro m z w3 ⟨i, rfl, rfl, hi, b0, b1, k3⟩
    show sat _ (spec_Same.t2 ⟨w.heap.size, 0, none⟩ ⟨w.heap.size + 1, 0, none⟩ (i : Int)) _ _
    unfold spec_Same.t2
    refine s_load a (by rw [addr_add, Nat.zero_add, b0.cell]; rfl) (s_iteD (fun hlt => s_drew ?_) (fun hge => ?_))
    · have hin : i < n.keys.length := by omega
      have kd : Kp Off w3 w3.drew := (Kp.refl Off w3).drew
      have b0 := kd.blk b0 id
      have b1 := kd.blk b1 id
      have k3 := k3.trans kd
      generalize w3.drew = w4 at kd b0 b1 k3
      have hk : (n.keys.map strV)[i]? = some (strV n.keys[i]) := by rw [List.getElem?_map, List.getElem?_eq_getElem hin]; rfl
      obtain ⟨l1, l2, l3⟩ := Lj.RowIn.any hr1 k3
      rcases l3 with l3 | ⟨g, a1, _, _, a4⟩
      · omega
      obtain ⟨l1', l2', l3'⟩ := Lj.RowIn.any hr1' k3
      rcases l3' with l3' | ⟨g', a1', _, _, a4'⟩
      · omega
      refine s_load a (by rw [addr_add, Nat.zero_add, b0.cell]; rfl) (s_chk ⟨by omega, by omega⟩ ⟨_, a1, ?_⟩)
      refine s_load n.keys[i] (by rw [addr_add, Int.toNat_natCast, Nat.zero_add, Nat.mul_one]; exact a4 _ _ hk) ?_
      refine s_load a' (by rw [addr_add, Nat.zero_add, b1.cell]; rfl) (s_chk ⟨by omega, by omega⟩ ⟨_, a1', ?_⟩)
      refine s_load n.keys[i] (by rw [addr_add, Int.toNat_natCast, Nat.zero_add, Nat.mul_one]; exact a4' _ _ hk) ?_
      rw [strEq_iff.2 rfl]
      refine sat_iteF.2 (s_leaf ?_)
      rw [if_pos rfl]
      have w1' : IntKind.wrap IntKind.i64 ((i : Int) + 1) = ((i + 1 : Nat) : Int) := by rw [wrap_in (by omega) (by omega)]; omega
      rw [w1']
      exact ⟨n.keys.length - (i + 1), (((i + 1 : Nat) : Int), ()), rfl, by omega, i + 1, rfl, rfl, hin, b0, b1, k3⟩
    · refine s_loop (fun m z w' => ∃ i : Nat, m = n.kids.length - i ∧ z = ((i : Int), ()) ∧ i ≤ n.kids.length ∧ Blk w' w.heap.size (nc n.k n.t a b) tN ∧ Blk w' (w.heap.size + 1) (nc n.k n.t a' b') tN ∧ Kp Off w w') n.kids.length ((0 : Int), ()) rfl ⟨0, rfl, rfl, Nat.zero_le _, b0, b1, k3⟩ ?_
      clear b0 b1 k3 hge
      rintro m z w3 ⟨j, rfl, rfl, hj, b0, b1, k3⟩
      show sat _ (spec_Same.t3 ⟨w.heap.size, 0, none⟩ ⟨w.heap.size + 1, 0, none⟩ (j : Int)) _ _
      unfold spec_Same.t3
      refine s_load b (by rw [addr_add, Nat.zero_add, b0.cell]; rfl) (s_iteD (fun hlt => s_drew ?_) (fun hge => s_leaf ?_))
      · have hin : j < n.kids.length := by omega
        have hc : n.kids[j]? = some n.kids[j] := List.getElem?_eq_getElem hin
        generalize n.kids[j] = c at hc
        have kd : Kp Off w3 w3.drew := (Kp.refl Off w3).drew
        have b0 := kd.blk b0 id
        have b1 := kd.blk b1 id
        have k3 := k3.trans kd
        generalize w3.drew = w4 at kd b0 b1 k3
        obtain ⟨l1, l2, l3⟩ := Lj.RowIn.any hr2 k3
        rcases l3 with l3 | ⟨g, a1, _, _, a4⟩
        · omega
        obtain ⟨l1', l2', l3'⟩ := Lj.RowIn.any hr2' k3
        rcases l3' with l3' | ⟨g', a1', _, _, a4'⟩
        · omega
        obtain ⟨cs, hcn, hcs⟩ := all_getN n.kids xs j c hall hc
        obtain ⟨cs', hcn', hcs'⟩ := all_getN n.kids xs' j c hall' hc
        have hcn0 := hcn
        have hcn0' := hcn'
        obtain ⟨ac, bc, _, rfl, _⟩ := hcn0.inv
        obtain ⟨ac', bc', _, rfl, _⟩ := hcn0'.inv
        refine s_load b (by rw [addr_add, Nat.zero_add, b0.cell]; rfl) (s_chk ⟨by omega, by omega⟩ ⟨_, a1, ?_⟩)
        refine s_effS ((c.k : Int), c.t, ac, bc, ()) (by
          rw [addr_add, Int.toNat_natCast]
          refine node_run fun q hq => ?_
          have h1 := hcs q hq
          obtain ⟨y, hy⟩ : ∃ y, (nc c.k c.t ac bc)[q]? = some y := ⟨_, List.getElem?_eq_getElem (show q < 4 from hq)⟩
          rw [hy] at h1 ⊢
          rw [Nat.zero_add]
          exact a4 _ _ h1) ?_
        refine s_load b' (by rw [addr_add, Nat.zero_add, b1.cell]; rfl) (s_chk ⟨by omega, by omega⟩ ⟨_, a1', ?_⟩)
        refine s_effS ((c.k : Int), c.t, ac', bc', ()) (by
          rw [addr_add, Int.toNat_natCast]
          refine node_run fun q hq => ?_
          have h1 := hcs' q hq
          obtain ⟨y, hy⟩ : ∃ y, (nc c.k c.t ac' bc')[q]? = some y := ⟨_, List.getElem?_eq_getElem (show q < 4 from hq)⟩
          rw [hy] at h1 ⊢
          rw [Nat.zero_add]
          exact a4' _ _ h1) ?_
        have hcn4 : NdAt Any w4 c (nc c.k c.t ac bc) := hcn.kp k3 fun q _ _ => ⟨trivial, id⟩
        have hcn4' : NdAt Any w4 c (nc c.k c.t ac' bc') := hcn'.kp k3 fun q _ _ => ⟨trivial, id⟩
        have := size_kid hc
        refine s_call (same_any N c w4 Any Any ac bc ac' bc' (by omega) (m3.get hc) hcn4 hcn4') ?_
        rintro e w5 ⟨rfl, k5⟩
        refine ⟨true, rfl, sat_iteF.2 (s_leaf ?_)⟩
        rw [if_pos rfl]
        have w1' : IntKind.wrap IntKind.i64 ((j : Int) + 1) = ((j + 1 : Nat) : Int) := by rw [wrap_in (by omega) (by omega)]; omega
        rw [w1']
        exact ⟨n.kids.length - (j + 1), (((j + 1 : Nat) : Int), ()), rfl, by omega, j + 1, rfl, rfl, hin, k5.blk b0 id, k5.blk b1 id, k3.trans k5⟩
      · rw [if_neg (by decide)]; exact ⟨rfl, rfl, k3⟩
mutual
/-- How many levels a tree has. -/
def levN : NT → Nat
  | .mk _ _ _ kids => levNL kids + 1
def levNL : List NT → Nat
  | [] => 0
  | p :: ks => max (levN p) (levNL ks)
end
theorem levN_eq (n : NT) : levN n = levNL n.kids + 1 := by cases n; rw [levN]; rfl
theorem levNL_snoc (c : NT) : ∀ l : List NT, levNL (l ++ [c]) = max (levNL l) (levN c)
  | [] => by show levNL [c] = _; simp only [levNL]; omega
  | p :: l => by
    show levNL (p :: (l ++ [c])) = _
    simp only [levNL]
    rw [levNL_snoc c l]; omega
theorem levNL_mem : ∀ (l : List NT) (c : NT), c ∈ l → levN c ≤ levNL l
  | [], c, h => by cases h
  | p :: l, c, h => by
    simp only [levNL]
    rcases List.mem_cons.1 h with rfl | h
    · omega
    · have := levNL_mem l c h; omega
theorem levNL_le {M : Nat} : ∀ (l : List NT), (∀ c ∈ l, levN c ≤ M) → levNL l ≤ M
  | [], _ => by simp only [levNL]; omega
  | p :: l, h => by
    simp only [levNL]
    have h1 := h p (List.mem_cons_self ..)
    have h2 := levNL_le l fun c hc => h c (List.mem_cons_of_mem _ hc)
    omega
mutual
theorem levN_tree (s : ByteArray) : ∀ p : PT, levN (treeN s p) = Zv.lv p
  | .mk k b e ns ks => by
    simp only [treeN, levN, Zv.lv]
    rw [levNL_tree s ks]
theorem levNL_tree (s : ByteArray) : ∀ ks : List PT, levNL (treeL s ks) = Zv.lvL ks
  | [] => by simp only [treeL, levNL, Zv.lvL]
  | p :: ks => by
    simp only [treeL, levNL, Zv.lvL]
    rw [levN_tree s p, levNL_tree s ks]
end
variable {w w' : World}
theorem levels_any : ∀ (N : Nat) (nt : NT) (w : World) (B : Nat → Prop) (a b : Sl), SizeOf.sizeOf nt < N → Sm nt → levN nt ≤ 1000000 → NdAt B w nt (nc nt.k nt.t a b) → Calls Tryz.prog 6 #[.agg (nc nt.k nt.t a b).toArray] w fun e w' => e = .returned (.int .i64 (levN nt)) ∧ Kp Off w w'
  | 0, nt, w, B, a, b, h, _, _, _ => absurd h (Nat.not_lt_zero _)
  | N + 1, nt, w, B, a, b, hN, hsm, hdep, hn => by
    obtain ⟨m1, m2, m3⟩ := hsm.inv
    obtain ⟨a', b', xs, he, hr1, hr2, hall⟩ := hn.inv
    have he1 : a' = a ∧ b' = b := by
      unfold nc at he
      simp only [List.cons.injEq, Value.slice.injEq, true_and, and_true] at he
      obtain ⟨⟨x1, x2, x3⟩, y1, y2, y3⟩ := he
      exact ⟨Prod.ext x1.symm (Prod.ext x2.symm x3.symm), Prod.ext y1.symm (Prod.ext y2.symm y3.symm)⟩
    obtain ⟨rfl, rfl⟩ := he1
    clear he
    refine spec_Levels.calls _ _ _ _ _ _ _ _ ?_
    unfold spec_Levels.t
    refine s_alloc ?_
    have b0 := Blk.new w (nc nt.k nt.t a' b') tN
    have k0 : Kp Off w (w.alloc (.cells (nc nt.k nt.t a' b').toArray tN (0, 0))) := (Kp.refl Off w).alloc _
    show sat _ _ _ (w.alloc (.cells (nc nt.k nt.t a' b').toArray tN (0, 0)))
    generalize w.alloc (.cells (nc nt.k nt.t a' b').toArray tN (0, 0)) = w1 at k0 b0
    have hl2 := hr2.1
    have hde := levN_eq nt
    refine s_loop (fun m z w' => ∃ i : Nat, m = nt.kids.length - i ∧ z = ((i : Int), ((levNL (nt.kids.take i) : Nat) : Int), ()) ∧ i ≤ nt.kids.length ∧ Blk w' w.heap.size (nc nt.k nt.t a' b') tN ∧ Kp Off w w') nt.kids.length ((0 : Int), (0 : Int), ()) rfl ⟨0, rfl, by rw [List.take_zero]; simp only [levNL]; rfl, Nat.zero_le _, b0, k0⟩ ?_
    clear b0 k0
    rintro m z w3 ⟨j, rfl, rfl, hj, b3, k3⟩
    show sat _ (spec_Levels.t1 ⟨w.heap.size, 0, none⟩ (j : Int) ((levNL (nt.kids.take j) : Nat) : Int)) _ _
    unfold spec_Levels.t1
    have hle : levNL (nt.kids.take j) ≤ levNL nt.kids := levNL_le _ fun c hc => levNL_mem _ _ (List.mem_of_mem_take hc)
    refine s_load b' (by rw [addr_add, Nat.zero_add, b3.cell]; rfl) (s_iteD (fun hlt => ?_) (fun hge => s_leaf ?_))
    · have hin : j < nt.kids.length := by omega
      have hc : nt.kids[j]? = some nt.kids[j] := List.getElem?_eq_getElem hin
      generalize nt.kids[j] = c at hc
      obtain ⟨l1, l2, l3⟩ := Lj.RowIn.any hr2 k3
      rcases l3 with l3 | ⟨g, a1, _, _, a4⟩
      · omega
      obtain ⟨cs, hcn, hcs⟩ := all_getN nt.kids xs j c hall hc
      have hcn0 := hcn
      obtain ⟨ac, bc, _, rfl, _⟩ := hcn0.inv
      refine s_load b' (by rw [addr_add, Nat.zero_add, b3.cell]; rfl) (s_chk ⟨by omega, by omega⟩ ⟨_, a1, ?_⟩)
      refine s_eff (w' := w3) ((c.k : Int), c.t, ac, bc, ()) (by
        rw [addr_add, Int.toNat_natCast]
        refine node_run fun q hq => ?_
        have h1 := hcs q hq
        obtain ⟨y, hy⟩ : ∃ y, (nc c.k c.t ac bc)[q]? = some y := ⟨_, List.getElem?_eq_getElem (show q < 4 from hq)⟩
        rw [hy] at h1 ⊢
        rw [Nat.zero_add]
        exact a4 _ _ h1) ?_
      have hcn3 : NdAt Any w3 c (nc c.k c.t ac bc) := hcn.kp k3 fun q _ _ => ⟨trivial, id⟩
      have := size_kid hc
      have hdc := levNL_mem _ _ (List.mem_of_getElem? hc)
      refine s_call (levels_any N c w3 Any ac bc (by omega) (m3.get hc) (by omega) hcn3) ?_
      rintro e w4 ⟨rfl, k4⟩
      refine ⟨(levN c : Int), rfl, s_eff (w' := w4) (((max (levNL (nt.kids.take j)) (levN c) : Nat) : Int)) ?_ (s_leaf ?_)⟩
      · rw [run_max]
        congr 2
        show (if (levN c : Int) > (levNL (nt.kids.take j) : Int) then (levN c : Int) else (levNL (nt.kids.take j) : Int)) = _
        split <;> omega
      · rw [if_pos rfl]
        have w1' : IntKind.wrap IntKind.i64 ((j : Int) + 1) = ((j + 1 : Nat) : Int) := by rw [wrap_in (by omega) (by omega)]; omega
        rw [w1']
        have et : nt.kids.take (j + 1) = nt.kids.take j ++ [c] := by rw [List.take_add_one, hc]; rfl
        exact ⟨nt.kids.length - (j + 1), (((j + 1 : Nat) : Int), ((max (levNL (nt.kids.take j)) (levN c) : Nat) : Int), ()), rfl, by omega, j + 1, rfl, by rw [et, levNL_snoc]; rfl, hin, k4.blk b3 id, k3.trans k4⟩
    · rw [if_neg (by decide)]
      have ej : j = nt.kids.length := by omega
      subst ej
      rw [List.take_length, wrap_in (by omega) (by omega), hde]
      exact ⟨rfl, rfl, k3⟩
end Go.Proofs.YtkpnomdmnhhaoaaGreatDoor.Nt
