/- The reference's Depth and Paired; the law's fjText. No statement of the set is proved here. -/
import Derived.Test.YtkpnomdmnhhaoaaGreatDoorZn
import Derived.Test.YtkpnomdmnhhaoaaGreatDoorZc
import Derived.Test.YtkpnomdmnhhaoaaGreatDoorTf
import Derived.Test.YtkpnomdmnhhaoaaGreatDoorZq
namespace Go.Proofs.YtkpnomdmnhhaoaaGreatDoor.Nt
open Go Go.Proofs Go.RowKit Go.Proofs.YtkpnomdmnhhaoaaGreatDoor.Rx Go.Proofs.YtkpnomdmnhhaoaaGreatDoor.Tr Go.Proofs.YtkpnomdmnhhaoaaGreatDoor.Pl Go.Proofs.YtkpnomdmnhhaoaaGreatDoor.Pw
open Go.Proofs.YtkpnomdmnhhaoaaGreatDoor.Sr (Sl slV RowIn places)
open Go.Proofs.YtkpnomdmnhhaoaaGreatDoor.Lj (Any)
open Go.Proofs.YtkpnomdmnhhaoaaGreatDoor.Ut (bn bt_bn)
open Go.Proofs.YtkpnomdmnhhaoaaGreatDoor.Uq (uN pairU uN_lt unit_any)
open Go.Proofs.YtkpnomdmnhhaoaaGreatDoor.Ch (high_any low_any)
open Go.Proofs.YtkpnomdmnhhaoaaGreatDoor.Zu (pd sur sur_iff pd_end pd_plain pd_short pd_uni pd_pair)
open Go.Proofs.YtkpnomdmnhhaoaaGreatDoor.Zv (lv lvL)

variable {w w' : World} {s : ByteArray} {B : Nat → Prop}
theorem run_max {P : Program} {ats : Array TypeId} {ty : TypeId} {k : IntKind} {a b : Int} : (Builtin.max_ ats ty #[.int k a, .int k b]).run P w = .ok (.int k (if b > a then b else a)) w := by
  unfold Builtin.max_
  simp [Builtin.max2]
mutual
/-- How deep a tree is: 0 for what is no array and no object. -/
def depN : NT → Nat
  | .mk k _ _ kids => if k = 5 ∨ k = 6 then depNL kids + 1 else 0
def depNL : List NT → Nat
  | [] => 0
  | p :: ks => max (depN p) (depNL ks)
end
theorem depN_eq (n : NT) : depN n = if n.k = 5 ∨ n.k = 6 then depNL n.kids + 1 else 0 := by cases n; rw [depN]; rfl
theorem depNL_snoc (c : NT) : ∀ l : List NT, depNL (l ++ [c]) = max (depNL l) (depN c)
  | [] => by show depNL [c] = _; simp only [depNL]; omega
  | p :: l => by
    show depNL (p :: (l ++ [c])) = _
    simp only [depNL]
    rw [depNL_snoc c l]; omega
theorem depNL_mem : ∀ (l : List NT) (c : NT), c ∈ l → depN c ≤ depNL l
  | [], c, h => by cases h
  | p :: l, c, h => by
    simp only [depNL]
    rcases List.mem_cons.1 h with rfl | h
    · exact Nat.le_max_left _ _
    · exact Nat.le_trans (depNL_mem l c h) (Nat.le_max_right _ _)
theorem depNL_le {M : Nat} : ∀ (l : List NT), (∀ c ∈ l, depN c ≤ M) → depNL l ≤ M
  | [], _ => by simp only [depNL]; omega
  | p :: l, h => by
    simp only [depNL]
    have h1 := h p (List.mem_cons_self ..)
    have h2 := depNL_le l fun c hc => h c (List.mem_cons_of_mem _ hc)
    omega
theorem lvL_le {M : Nat} : ∀ (l : List PT), (∀ c ∈ l, lv c ≤ M) → lvL l ≤ M
  | [], _ => by simp only [lvL]; omega
  | p :: l, h => by
    simp only [lvL]
    have h1 := h p (List.mem_cons_self ..)
    have h2 := lvL_le l fun c hc => h c (List.mem_cons_of_mem _ hc)
    omega
theorem treeL_mem (s : ByteArray) : ∀ (ks : List PT) (n : NT), n ∈ treeL s ks ↔ ∃ c ∈ ks, n = treeN s c
  | [], n => by simp [treeL]
  | p :: ks, n => by
    simp only [treeL, List.mem_cons, treeL_mem s ks]
    constructor
    · rintro (rfl | ⟨c, h1, h2⟩)
      · exact ⟨p, .inl rfl, rfl⟩
      · exact ⟨c, .inr h1, h2⟩
    · rintro ⟨c, rfl | h1, h2⟩
      · exact .inl h2
      · exact .inr ⟨c, h1, h2⟩
theorem depN_le (s : ByteArray) : ∀ (N : Nat) (p : PT), p.e - p.b < N → WfV s p → depN (treeN s p) ≤ p.e - p.b
  | 0, p, h, _ => absurd h (Nat.not_lt_zero _)
  | N + 1, p, h, hw => by
    have hl := hw.lt
    rw [depN_eq, treeN_kids]
    split
    · have : depNL (treeL s p.ks) ≤ p.e - p.b - 1 := depNL_le _ fun c hc => by
        obtain ⟨q, hq, rfl⟩ := (treeL_mem s p.ks c).1 hc
        obtain ⟨i, hi⟩ := List.mem_iff_getElem?.1 hq
        obtain ⟨c1, c2, c3⟩ := kid_in hw hi
        have := c1.lt
        have := depN_le s N q (by omega) c1
        omega
      omega
    · omega
/-- fastjson's levels and the reference's depth. -/
theorem lv_dep (s : ByteArray) : ∀ (N : Nat) (p : PT), p.e - p.b < N → WfV s p → lv p ≤ depN (treeN s p) + 1
  | 0, p, h, _ => absurd h (Nat.not_lt_zero _)
  | N + 1, p, h, hw => by
    have hl := hw.lt
    have e1 : lv p = lvL p.ks + 1 := by cases p; rw [lv]; rfl
    rw [e1, depN_eq, treeN_k, treeN_kids]
    by_cases hk : p.k = 5 ∨ p.k = 6
    · rw [if_pos hk]
      have : lvL p.ks ≤ depNL (treeL s p.ks) + 1 := lvL_le _ fun c hc => by
        obtain ⟨i, hi⟩ := List.mem_iff_getElem?.1 hc
        obtain ⟨c1, c2, c3⟩ := kid_in hw hi
        have := c1.lt
        have := lv_dep s N c (by omega) c1
        have := depNL_mem (treeL s p.ks) (treeN s c) ((treeL_mem s p.ks _).2 ⟨c, hc, rfl⟩)
        omega
      omega
    · rw [if_neg hk]
      have : p.ks = [] := by
        obtain ⟨k, b, e, ns, ks⟩ := p
        unfold WfV at hw
        have hk : ¬ (k = 5 ∨ k = 6) := hk
        obtain ⟨_, _, ⟨_, h, _⟩ | ⟨_, _, h, _⟩ | ⟨h, _⟩ | ⟨h, _⟩⟩ := hw
        · exact h
        · exact h
        · exact absurd (.inl h) hk
        · exact absurd (.inr h) hk
      rw [this]
      simp [lvL]
/-- Depth. -/
theorem depth_any : ∀ (N : Nat) (nt : NT) (w : World) (B : Nat → Prop) (a b : Sl), SizeOf.sizeOf nt < N → Sm nt → depN nt ≤ 1000000 → NdAt B w nt (nc nt.k nt.t a b) → Calls Tryz.prog 15 #[.agg (nc nt.k nt.t a b).toArray] w fun e w' => e = .returned (.int .i64 (depN nt)) ∧ Kp Off w w'
  | 0, nt, w, B, a, b, h, _, _, _ => absurd h (Nat.not_lt_zero _)
  | N + 1, nt, w, B, a, b, hN, hsm, hdep, hn => by
    obtain ⟨m1, m2, m3⟩ := hsm.inv
    obtain ⟨a', b', xs, he, hr1, hr2, hall⟩ := hn.inv
    have he1 : a' = a ∧ b' = b := by
      unfold nc at he
      simp only [List.cons.injEq, Value.slice.injEq, true_and, and_true] at he
      obtain ⟨⟨x1, x2, x3⟩, y1, y2, y3⟩ := he
      exact ⟨Prod.ext x1.symm (Prod.ext x2.symm x3.symm), Prod.ext y1.symm (Prod.ext y2.symm y3.symm)⟩
    obtain ⟨rfl, rfl⟩ := he1
    clear he
    refine spec_Depth.calls _ _ _ _ _ _ _ _ ?_
    unfold spec_Depth.t
    refine s_alloc ?_
    have b0 := Blk.new w (nc nt.k nt.t a' b') tN
    have k0 : Kp Off w (w.alloc (.cells (nc nt.k nt.t a' b').toArray tN (0, 0))) := (Kp.refl Off w).alloc _
    show sat _ _ _ (w.alloc (.cells (nc nt.k nt.t a' b').toArray tN (0, 0)))
    generalize w.alloc (.cells (nc nt.k nt.t a' b').toArray tN (0, 0)) = w1 at k0 b0
    have hl2 := hr2.1
    have hde := depN_eq nt
    refine s_cut (fun z w' => z = (!decide (nt.k = 5 ∨ nt.k = 6), ()) ∧ w' = w1) ?_ ?_
    · refine s_load (nt.k : Int) (by rw [addr_add, Nat.zero_add, b0.cell]; rfl) (s_iteN (fun g => ?_) (fun g => s_leaf ?_))
      · refine s_load (nt.k : Int) (by rw [addr_add, Nat.zero_add, b0.cell]; rfl) (s_leaf ?_)
        rw [if_pos rfl]
        have g : nt.k ≠ 5 := fun c => g (by rw [c]; rfl)
        refine ⟨((nt.k : Int) != 6, ()), rfl, bpair ?_, rfl⟩
        simp [g]; omega
      · rw [if_pos rfl]
        have g : nt.k = 5 := by omega
        exact ⟨(false, ()), rfl, bpair (by simp [g]), rfl⟩
    rintro z w2 ⟨rfl, rfl⟩
    show sat _ (spec_Depth.t1 ⟨w.heap.size, 0, none⟩ (!decide (nt.k = 5 ∨ nt.k = 6))) _ _
    unfold spec_Depth.t1
    refine s_ite (fun g => s_leaf ⟨rfl, ?_, k0⟩) (fun g => ?_)
    · have g : ¬ (nt.k = 5 ∨ nt.k = 6) := by simpa using g
      rw [hde, if_neg g]; rfl
    have g : nt.k = 5 ∨ nt.k = 6 := by
      by_cases c : nt.k = 5 ∨ nt.k = 6
      · exact c
      · rw [decide_eq_false c] at g; cases g
    rw [if_pos g] at hde
    refine s_loop (fun m z w' => ∃ i : Nat, m = nt.kids.length - i ∧ z = ((i : Int), ((depNL (nt.kids.take i) : Nat) : Int), ()) ∧ i ≤ nt.kids.length ∧ Blk w' w.heap.size (nc nt.k nt.t a' b') tN ∧ Kp Off w w') nt.kids.length ((0 : Int), (0 : Int), ()) rfl ⟨0, rfl, by rw [List.take_zero]; simp only [depNL]; rfl, Nat.zero_le _, b0, k0⟩ ?_
    clear b0 k0
    rintro m z w3 ⟨j, rfl, rfl, hj, b3, k3⟩
    show sat _ (spec_Depth.t2 ⟨w.heap.size, 0, none⟩ (j : Int) ((depNL (nt.kids.take j) : Nat) : Int)) _ _
    unfold spec_Depth.t2
    have hle : depNL (nt.kids.take j) ≤ depNL nt.kids := depNL_le _ fun c hc => depNL_mem _ _ (List.mem_of_mem_take hc)
    refine s_load b' (by rw [addr_add, Nat.zero_add, b3.cell]; rfl) (s_iteD (fun hlt => ?_) (fun hge => s_leaf ?_))
    · have hin : j < nt.kids.length := by omega
      have hc : nt.kids[j]? = some nt.kids[j] := List.getElem?_eq_getElem hin
      generalize nt.kids[j] = c at hc
      obtain ⟨l1, l2, l3⟩ := Lj.RowIn.any hr2 k3
      rcases l3 with l3 | ⟨g, a1, _, _, a4⟩
      · omega
      obtain ⟨cs, hcn, hcs⟩ := all_getN nt.kids xs j c hall hc
      have hcn0 := hcn
      obtain ⟨ac, bc, _, rfl, _⟩ := hcn0.inv
      refine s_load b' (by rw [addr_add, Nat.zero_add, b3.cell]; rfl) (s_chk ⟨by omega, by omega⟩ ⟨_, a1, ?_⟩)
      refine s_eff (w' := w3) ((c.k : Int), c.t, ac, bc, ()) (by
        rw [addr_add, Int.toNat_natCast]
        refine node_run fun q hq => ?_
        have h1 := hcs q hq
        obtain ⟨y, hy⟩ : ∃ y, (nc c.k c.t ac bc)[q]? = some y := ⟨_, List.getElem?_eq_getElem (show q < 4 from hq)⟩
        rw [hy] at h1 ⊢
        rw [Nat.zero_add]
        exact a4 _ _ h1) ?_
      have hcn3 : NdAt Any w3 c (nc c.k c.t ac bc) := hcn.kp k3 fun q _ _ => ⟨trivial, id⟩
      have := size_kid hc
      have hdc := depNL_mem _ _ (List.mem_of_getElem? hc)
      refine s_call (depth_any N c w3 Any ac bc (by omega) (m3.get hc) (by omega) hcn3) ?_
      rintro e w4 ⟨rfl, k4⟩
      refine ⟨(depN c : Int), rfl, s_eff (w' := w4) (((max (depNL (nt.kids.take j)) (depN c) : Nat) : Int)) ?_ (s_leaf ?_)⟩
      · rw [run_max]
        congr 2
        show (if (depN c : Int) > (depNL (nt.kids.take j) : Int) then (depN c : Int) else (depNL (nt.kids.take j) : Int)) = _
        split <;> omega
      · rw [if_pos rfl]
        have w1' : IntKind.wrap IntKind.i64 ((j : Int) + 1) = ((j + 1 : Nat) : Int) := by rw [wrap_in (by omega) (by omega)]; omega
        rw [w1']
        have et : nt.kids.take (j + 1) = nt.kids.take j ++ [c] := by rw [List.take_add_one, hc]; rfl
        exact ⟨nt.kids.length - (j + 1), (((j + 1 : Nat) : Int), ((max (depNL (nt.kids.take j)) (depN c) : Nat) : Int), ()), rfl, by omega, j + 1, rfl, by rw [et, depNL_snoc]; rfl, hin, k4.blk b3 id, k3.trans k4⟩
    · rw [if_neg (by decide)]
      have ej : j = nt.kids.length := by omega
      subst ej
      rw [List.take_length, wrap_in (by omega) (by omega), hde]
      exact ⟨rfl, rfl, k3⟩
/-- Paired. -/
theorem paired_any (hs : s.size < 4611686018427387904) : Calls Tryz.prog 13 #[.string s] w fun e w' => e = .returned (.bool (pd s 0)) ∧ w' = w := by
  refine spec_Paired.calls _ ?_
  unfold spec_Paired.t
  refine s_loop (fun m z w' => ∃ i : Nat, m = s.size + 12 - i ∧ z = ((i : Int), ()) ∧ i ≤ s.size + 11 ∧ pd s i = pd s 0 ∧ w' = w) (s.size + 12) ((0 : Int), ()) rfl ⟨0, rfl, rfl, by omega, rfl, rfl⟩ ?_
  rintro m z w1 ⟨i, rfl, rfl, hi, hp, rfl⟩
  show sat _ (spec_Paired.t1 s (i : Int)) _ _
  unfold spec_Paired.t1
  have go : ∀ {d : Nat}, 0 < d → d ≤ 12 → i < s.size → pd s i = pd s (i + d) → (if (1 : Nat) = 1 then ∃ n' x', [Value.int IntKind.i64 (IntKind.wrap IntKind.i64 ((i : Int) + (d : Int)))] = (Sh.cons (.int .i64) .nil).vals x' ∧ n' < s.size + 12 - i ∧ ∃ i : Nat, n' = s.size + 12 - i ∧ x' = ((i : Int), ()) ∧ i ≤ s.size + 11 ∧ pd s i = pd s 0 ∧ w1 = w1 else False) := fun {d} h1 h2 h3 h4 => by
    rw [if_pos rfl, wrap_in (by omega) (by omega)]
    exact ⟨s.size + 12 - (i + d), (((i + d : Nat) : Int), ()), rfl, by omega, i + d, rfl, rfl, by omega, by rw [← h4]; exact hp, rfl⟩
  refine s_iteD (fun hlt => s_chk (by omega) (s_iteN (fun h92 => s_leaf ?_) (fun h92 => ?_))) (fun hge => s_leaf ?_)
  · refine go (d := 1) (by decide) (by decide) (by omega) (pd_plain (by omega) fun c => h92 (by rw [bt_bn, c]; rfl))
  · have hb : bn s i = 92 := by rw [bt_bn] at h92; exact Int.ofNat.inj h92
    refine s_call (unit_any hs (by omega)) ?_
    rintro e w2 ⟨rfl, rfl⟩
    refine ⟨((((uN s i).getD 0 : Nat) : Int), (uN s i).isSome, ()), rfl, ?_⟩
    cases hu : uN s i with
    | none => exact sat_iteT.2 (s_leaf (go (d := 2) (by decide) (by decide) (by omega) (pd_short hb hu)))
    | some n =>
      refine sat_iteF.2 ?_
      have hn := uN_lt hu
      refine s_call high_any ?_
      rintro e w3 ⟨rfl, rfl⟩
      refine ⟨decide (55296 ≤ (n : Int) ∧ (n : Int) ≤ 56319), rfl, s_iteD (fun gh => ?_) (fun gh => ?_)⟩
      · rw [wrap_in (by omega) (by omega), show (i : Int) + (6 : Int) = ((i + 6 : Nat) : Int) by omega]
        refine s_call (unit_any hs (by omega)) ?_
        rintro e w4 ⟨rfl, rfl⟩
        refine ⟨((((uN s (i + 6)).getD 0 : Nat) : Int), (uN s (i + 6)).isSome, ()), rfl, ?_⟩
        have no : pairU s i n = none → pd s 0 = false := fun h => by
          rw [← hp, pd_uni hu h, sur_iff.2 (by omega)]; rfl
        cases hm : uN s (i + 6) with
        | none =>
          refine sat_iteT.2 (s_leaf ?_)
          rw [if_neg (by decide)]
          refine ⟨rfl, ?_, rfl⟩
          rw [no (by unfold pairU; rw [hm])]; rfl
        | some m =>
          refine sat_iteF.2 (s_call low_any ?_)
          rintro e w5 ⟨rfl, rfl⟩
          refine ⟨decide (56320 ≤ (m : Int) ∧ (m : Int) ≤ 57343), rfl, ?_⟩
          by_cases gl : 56320 ≤ (m : Int) ∧ (m : Int) ≤ 57343
          · rw [decide_eq_true gl]
            refine sat_iteF.2 (s_leaf ?_)
            have : ∃ c, pairU s i n = some c := ⟨_, by unfold pairU; rw [hm]; simp only; rw [if_pos ⟨by omega, by omega⟩]⟩
            obtain ⟨c, hc⟩ := this
            exact go (d := 12) (by decide) (by decide) (by omega) (pd_pair hu hc)
          · rw [decide_eq_false gl]
            refine sat_iteT.2 (s_leaf ?_)
            rw [if_neg (by decide)]
            refine ⟨rfl, ?_, rfl⟩
            rw [no (by unfold pairU; rw [hm]; simp only; rw [if_neg (by omega)])]; rfl
      · have hpn : pairU s i n = none := by
          unfold pairU
          split
          · rw [if_neg (by omega)]
          · rfl
        refine s_call low_any ?_
        rintro e w4 ⟨rfl, rfl⟩
        refine ⟨decide (56320 ≤ (n : Int) ∧ (n : Int) ≤ 57343), rfl, s_iteD (fun gl => s_leaf ?_) (fun gl => s_leaf ?_)⟩
        · rw [if_neg (by decide)]
          refine ⟨rfl, ?_, rfl⟩
          rw [← hp, pd_uni hu hpn, sur_iff.2 (by omega)]; rfl
        · have hsf : sur n = false := by
            cases h : sur n with
            | false => rfl
            | true => have := sur_iff.1 h; omega
          exact go (d := 6) (by decide) (by decide) (by omega) (by rw [pd_uni hu hpn, hsf]; rfl)
  · rw [if_neg (by decide)]
    refine ⟨rfl, ?_, rfl⟩
    rw [← hp, pd_end (by omega)]; rfl
end Go.Proofs.YtkpnomdmnhhaoaaGreatDoor.Nt
