/- A JSON value moved to another place of another text. Plain; no statement of the set is proved here. -/
import Derived.Test.YtkpnomdmnhhaoaaGreatDoorMA
namespace Go.Proofs.YtkpnomdmnhhaoaaGreatDoor.Ed
open Go Go.Proofs Go.Proofs.YtkpnomdmnhhaoaaGreatDoor.Rx Go.Proofs.YtkpnomdmnhhaoaaGreatDoor.Pl Go.Proofs.YtkpnomdmnhhaoaaGreatDoor.Pw Go.Proofs.YtkpnomdmnhhaoaaGreatDoor.Sk

theorem bl_eq {s : ByteArray} : ∀ {n i m : Nat}, m - i = n → i ≤ m → (∀ j, i ≤ j → j < m → isB (bt s (j : Int)) = true) → isB (bt s (m : Int)) = false → bl s i = m
  | 0, i, m, h, hi, _, h2 => by
    have : i = m := by omega
    subst this; exact bl_no h2
  | n + 1, i, m, h, hi, h1, h2 => by
    rw [bl_yes (h1 i (Nat.le_refl i) (by omega))]
    exact bl_eq (n := n) (by omega) (by omega) (fun j g1 g2 => h1 j (by omega) g2) h2
/-- No byte that goes on with a number. -/
def Nst (c : Int) : Prop := isDig c = false ∧ c ≠ 46 ∧ c ≠ 101 ∧ c ≠ 69
/-- A place moved from u to v. -/
def sh (u v i : Nat) : Nat := i + v - u
mutual
def mvP (u v : Nat) : PT → PT
  | .mk k b e ns ks => .mk k (sh u v b) (sh u v e) (ns.map fun n => (sh u v n.1, sh u v n.2)) (mvL u v ks)
def mvL (u v : Nat) : List PT → List PT
  | [] => []
  | p :: ks => mvP u v p :: mvL u v ks
end
theorem mvP_b (u v : Nat) (p : PT) : (mvP u v p).b = sh u v p.b := by cases p; unfold mvP; rfl
theorem mvP_e (u v : Nat) (p : PT) : (mvP u v p).e = sh u v p.e := by cases p; unfold mvP; rfl
theorem mvP_k (u v : Nat) (p : PT) : (mvP u v p).k = p.k := by cases p; unfold mvP; rfl
theorem mvL_len (u v : Nat) : ∀ ks : List PT, (mvL u v ks).length = ks.length
  | [] => by unfold mvL; rfl
  | p :: ks => by unfold mvL; rw [List.length_cons, List.length_cons, mvL_len u v ks]
theorem sh0 (i : Nat) : sh 0 0 i = i := rfl
mutual
theorem mvP_id : ∀ p : PT, mvP 0 0 p = p
  | .mk k b e ns ks => by
    unfold mvP
    have e : (ns.map fun n : Nat × Nat => (sh 0 0 n.1, sh 0 0 n.2)) = ns := List.map_id ns
    rw [mvL_id ks, e]; rfl
theorem mvL_id : ∀ ks : List PT, mvL 0 0 ks = ks
  | [] => by unfold mvL; rfl
  | p :: ks => by unfold mvL; rw [mvP_id p, mvL_id ks]
end
/-- The bytes from u to e stand in another text from v on. -/
structure Ag (s s' : ByteArray) (u v e : Nat) : Prop where
  at' : ∀ j, u ≤ j → j < e → bt s' (sh u v j : Int) = bt s (j : Int)
  end' : sh u v e ≤ s'.size
  le : u ≤ e
variable {s s' : ByteArray} {u v e : Nat}
theorem sh_add {u v i k : Nat} (h : u ≤ i) : sh u v (i + k) = sh u v i + k := by unfold sh; omega
theorem sh_lt {u v i k : Nat} (h : u ≤ i) : sh u v i < sh u v k ↔ i < k := by unfold sh; omega
theorem sh_back {u v j : Nat} (h : v ≤ j) : ∃ i, u ≤ i ∧ j = sh u v i := ⟨j + u - v, by omega, by unfold sh; omega⟩
theorem Ag.m_bl (h : Ag s s' u v e) {i : Nat} (hi : u ≤ i) (hm : bl s i < e) : bl s' (sh u v i) = sh u v (bl s i) := by
  have hg := bl_ge s i
  refine bl_eq rfl (by unfold sh; omega) (fun j g1 g2 => ?_) ?_
  · obtain ⟨k, hk, rfl⟩ := sh_back (u := u) (v := v) (j := j) (by unfold sh at g1; omega)
    have : k < bl s i := (sh_lt hk).1 g2
    rw [h.at' k hk (by omega)]
    exact bl_blank s i k (by unfold sh at g1; omega) this
  · rw [h.at' _ (by omega) hm]; exact bl_not s i
theorem Ag.m_hexE (h : Ag s s' u v e) : ∀ {n i m : Nat}, u ≤ i → hexE s i n = some m → m ≤ e → hexE s' (sh u v i) n = some (sh u v m)
  | 0, i, m, hi, hh, hm => by cases hh; rfl
  | n + 1, i, m, hi, hh, hm => by
    have hl := (hexE_le hh).1
    unfold hexE at hh ⊢
    rw [h.at' i hi (by omega)]
    split at hh
    · rename_i g
      rw [if_pos g]
      have := Ag.m_hexE h (n := n) (i := i + 1) (by omega) hh hm
      rwa [sh_add hi] at this
    · cases hh
theorem Ag.m_escE (h : Ag s s' u v e) {i m : Nat} (hi : u ≤ i) (hh : escE s i = some m) (hm : m ≤ e) : escE s' (sh u v i) = some (sh u v m) := by
  have hl := (escE_le hh).1
  unfold escE at hh ⊢
  rw [h.at' i hi (by omega)]
  split at hh
  · rename_i g
    cases hh
    rw [if_pos g, sh_add hi]
  · rename_i g
    rw [if_neg g]
    split at hh
    · rename_i g2
      rw [if_pos g2, ← sh_add hi]
      exact h.m_hexE (by omega) hh hm
    · cases hh
theorem Ag.m_strE (h : Ag s s' u v e) : ∀ {n i m : Nat}, m - i ≤ n → u ≤ i → strE s i = some m → m ≤ e → strE s' (sh u v i) = some (sh u v m)
  | 0, i, m, hn, hi, hh, hm => by have := strE_le hh; omega
  | n + 1, i, m, hn, hi, hh, hm => by
    have hl := strE_le hh
    have hb := h.at' i hi (by omega)
    by_cases h34 : bt s (i : Int) = 34
    · rw [strE_q h34] at hh
      cases hh
      rw [strE_q (by rw [hb]; exact h34), sh_add hi]
    by_cases h32 : bt s (i : Int) < 32
    · rw [strE_ctl h32] at hh; cases hh
    by_cases h92 : bt s (i : Int) = 92
    · rw [strE_esc h92] at hh
      cases he : Pl.escE s (i + 1) with
      | none => rw [he] at hh; cases hh
      | some j =>
        rw [he] at hh
        have hh : Pl.strE s j = some m := hh
        have h1 := strE_le hh
        have h2 := escE_le he
        rw [strE_esc (by rw [hb]; exact h92), ← sh_add hi, h.m_escE (by omega) he (by omega)]
        exact Ag.m_strE h (n := n) (by omega) (by omega) hh hm
    · have hlt : i < s.size := by omega
      rw [strE_plain hlt h34 h32 h92] at hh
      have hlt' : sh u v i < s'.size := by have := h.end'; unfold sh at this ⊢; omega
      rw [strE_plain hlt' (by rw [hb]; exact h34) (by rw [hb]; exact h32) (by rw [hb]; exact h92), ← sh_add hi]
      exact Ag.m_strE h (n := n) (by omega) (by omega) hh hm
theorem wordB_of {s w : ByteArray} {i : Nat} (hz : i + w.size ≤ s.size) (h : ∀ j, j < w.size → bt s ((i + j : Nat) : Int) = bt w (j : Int)) : wordB s i w = true := by
  unfold wordB
  rw [decide_eq_true hz, Bool.true_and, strEq_iff]
  have hsz : (s.extract i (i + w.size)).size = w.size := by rw [ByteArray.size_extract]; omega
  apply ByteArray.ext
  apply Array.ext
  · exact hsz
  · intro k h1 h2
    have hk : k < w.size := h2
    have a1 := bt_extract (s := s) (a := i) (b := i + w.size) (j := k) hz (by omega)
    rw [h k hk] at a1
    unfold bt at a1
    rw [Int.toNat_natCast, List.getD_eq_getElem?_getD, List.getD_eq_getElem?_getD, List.getElem?_eq_getElem (by rw [Array.length_toList]; exact h1), List.getElem?_eq_getElem (by rw [Array.length_toList]; exact h2)] at a1
    simp only [Option.getD_some, Array.getElem_toList] at a1
    exact UInt8.toNat_inj.1 (Int.ofNat.inj a1)
theorem Ag.word (h : Ag s s' u v e) {i : Nat} {w : ByteArray} (hi : u ≤ i) (hw : wordB s i w = true) (he : i + w.size ≤ e) : wordB s' (sh u v i) w = true := by
  have hend := h.end'
  refine wordB_of (by unfold sh at hend ⊢; omega) fun j hj => ?_
  rw [← sh_add hi, h.at' _ (by omega) (by omega)]
  exact wordB_at hw j hj
theorem Ag.allL (h : Ag s s' u v e) {i m : Nat} (hi : u ≤ i) (hm : m ≤ e) (hl : allL s i m) : allL s' (sh u v i) (sh u v m) := fun j g1 g2 => by
  obtain ⟨k, hk, rfl⟩ := sh_back (u := u) (v := v) (j := j) (by unfold sh at g1; omega)
  have g2 : k < m := (sh_lt hk).1 g2
  rw [h.at' k hk (by omega)]
  exact hl k (by unfold sh at g1; omega) g2
/-- Where a number ends. -/
def Stop (s' : ByteArray) (u v e m : Nat) : Prop := m < e ∨ (m = e ∧ Nst (bt s' (sh u v e : Int)))
theorem Ag.m_digs (h : Ag s s' u v e) {i : Nat} (hi : u ≤ i) (hm : digs s i ≤ e) (hs : digs s i < e ∨ isDig (bt s' (sh u v (digs s i) : Int)) = false) : digs s' (sh u v i) = sh u v (digs s i) := by
  have hg := digs_ge s i
  have h1 : allD s' (sh u v i) (sh u v (digs s i)) := fun j g1 g2 => by
    obtain ⟨k, hk, rfl⟩ := sh_back (u := u) (v := v) (j := j) (by unfold sh at g1; omega)
    have g2 : k < digs s i := (sh_lt hk).1 g2
    rw [h.at' k hk (by omega)]
    exact allD_digs s i k (by unfold sh at g1; omega) g2
  rw [digs_of_allD (by unfold sh; omega) h1]
  refine digs_no ?_
  rcases hs with hs | hs
  · rw [h.at' _ (by omega) hs]; exact digs_stop s i
  · exact hs
theorem Ag.m_expD (h : Ag s s' u v e) {i m : Nat} (hi : u ≤ i) (hh : expD s i = some m) (hs : Stop s' u v e m) : expD s' (sh u v i) = some (sh u v m) := by
  unfold expD at hh ⊢
  split at hh
  · rename_i g
    have := digs_gt g
    cases hh
    have hle : digs s i ≤ e := by rcases hs with hs | ⟨hs, _⟩ <;> omega
    rw [h.at' i hi (by omega), if_pos g, h.m_digs hi hle (hs.imp id fun x => by rw [x.1]; exact x.2.1)]
  · cases hh
theorem Ag.m_expE (h : Ag s s' u v e) {i m : Nat} (hi : u ≤ i) (hh : expE s i = some m) (hs : Stop s' u v e m) : expE s' (sh u v i) = some (sh u v m) := by
  have hle : m ≤ e := by rcases hs with hs | ⟨hs, _⟩ <;> omega
  unfold expE at hh
  split at hh
  · rename_i g
    have hlo : signE s (i + 1) < m := by
      unfold expD at hh
      split at hh
      · rename_i g2; have := digs_gt g2; cases hh; exact this
      · cases hh
    have hlo1 : i + 1 ≤ signE s (i + 1) := by unfold signE; split <;> omega
    have hsg : signE s' (sh u v (i + 1)) = sh u v (signE s (i + 1)) := by
      unfold signE at hlo hlo1 ⊢
      have e1 := h.at' (i + 1) (by omega) (by omega)
      rw [e1]
      split
      · exact (sh_add (by omega)).symm
      · rfl
    unfold expE
    rw [h.at' i hi (by omega), if_pos g, ← sh_add hi, hsg]
    exact h.m_expD (by omega) hh hs
  · rename_i g
    cases hh
    refine expE_no ?_
    rcases hs with hs | ⟨hs, h2⟩
    · rw [h.at' i hi hs]; exact g
    · subst hs; have := h2.2.2; omega
theorem expE_ge {s : ByteArray} {i m : Nat} (h : expE s i = some m) : i ≤ m := by
  unfold expE at h
  split at h
  · unfold expD at h
    split at h
    · rename_i g2
      have := digs_gt g2
      have : i + 1 ≤ signE s (i + 1) := by unfold signE; split <;> omega
      cases h; omega
    · cases h
  · cases h; exact Nat.le_refl _
theorem Ag.m_fracE (h : Ag s s' u v e) {i m : Nat} (hi : u ≤ i) (hh : fracE s i = some m) (hs : Stop s' u v e m) : fracE s' (sh u v i) = some (sh u v m) := by
  have hle : m ≤ e := by rcases hs with hs | ⟨hs, _⟩ <;> omega
  unfold fracE at hh
  split at hh
  · rename_i g
    split at hh
    · rename_i g2
      have g3 := digs_gt g2
      have g4 := expE_ge hh
      unfold fracE
      rw [h.at' i hi (by omega), if_pos g, ← sh_add hi, h.at' (i + 1) (by omega) (by omega), if_pos g2, h.m_digs (by omega) (by omega) ?_]
      · exact h.m_expE (by omega) hh hs
      · rcases hs with hs | ⟨hs, h2⟩
        · left; omega
        · rcases Nat.lt_or_ge (Pl.digs s (i + 1)) e with g | g
          · exact .inl g
          · right
            rw [show Pl.digs s (i + 1) = e by omega]; exact h2.1
    · cases hh
  · rename_i g
    have g4 := expE_ge hh
    have : bt s' (sh u v i : Int) ≠ 46 := by
      rcases Nat.lt_or_ge i e with g5 | g5
      · rw [h.at' i hi g5]; exact g
      · rcases hs with hs | ⟨hs, h2⟩
        · omega
        · have : i = e := by omega
          subst this; exact h2.2.1
    rw [fracE_no this]
    exact h.m_expE hi hh hs
theorem fracE_ge {s : ByteArray} {i m : Nat} (h : fracE s i = some m) : i ≤ m := by
  unfold fracE at h
  split at h
  · split at h
    · rename_i g2
      have := digs_gt g2
      have := expE_ge h
      omega
    · cases h
  · exact expE_ge h
theorem Ag.m_intE (h : Ag s s' u v e) {i m : Nat} (hi : u ≤ i) (hh : intE s i = some m) (hs : Stop s' u v e m) : intE s' (sh u v i) = some (sh u v m) ∧ i < m := by
  have hle : m ≤ e := by rcases hs with hs | ⟨hs, _⟩ <;> omega
  unfold intE at hh
  split at hh
  · rename_i g
    have g4 := fracE_ge hh
    refine ⟨?_, by omega⟩
    unfold intE
    rw [h.at' i hi (by omega), if_pos g, ← sh_add hi]
    exact h.m_fracE (by omega) hh hs
  · rename_i g
    split at hh
    · rename_i g2
      have g3 := digs_gt g2
      have g4 := fracE_ge hh
      refine ⟨?_, by omega⟩
      unfold intE
      rw [h.at' i hi (by omega), if_neg g, if_pos g2, h.m_digs hi (by omega) ?_]
      · exact h.m_fracE (by omega) hh hs
      · rcases hs with hs | ⟨hs, h2⟩
        · left; omega
        · rcases Nat.lt_or_ge (Pl.digs s i) e with g | g
          · exact .inl g
          · right
            rw [show Pl.digs s i = e by omega]; exact h2.1
    · cases hh
theorem Ag.m_numE (h : Ag s s' u v e) {i m : Nat} (hi : u ≤ i) (hh : numE s i = some m) (hs : Stop s' u v e m) : numE s' (sh u v i) = some (sh u v m) := by
  have hle : m ≤ e := by rcases hs with hs | ⟨hs, _⟩ <;> omega
  unfold numE at hh ⊢
  split at hh
  · rename_i g
    obtain ⟨a, b⟩ := h.m_intE (i := i + 1) (by omega) hh hs
    rw [h.at' i hi (by omega), if_pos g, ← sh_add hi]; exact a
  · rename_i g
    obtain ⟨a, b⟩ := h.m_intE hi hh hs
    rw [h.at' i hi (by omega), if_neg g]; exact a
theorem Ag.lit (h : Ag s s' u v e) {k i m : Nat} (hi : u ≤ i) (him : i < m) (hh : Pw.Lit s k i m) (hs : Stop s' u v e m) : Pw.Lit s' k (sh u v i) (sh u v m) := by
  have hle : m ≤ e := by rcases hs with hs | ⟨hs, _⟩ <;> omega
  refine ⟨h.allL hi hle hh.1, ?_⟩
  rcases hh.2 with ⟨a, b, c⟩ | ⟨a, b, c⟩ | ⟨a, b, c⟩ | ⟨a, b, c⟩
  · exact .inl ⟨a, by rw [h.at' i hi (by omega)]; exact b, h.m_numE hi c hs⟩
  · subst c; exact .inr (.inl ⟨a, h.word hi b hle, sh_add hi⟩)
  · subst c; exact .inr (.inr (.inl ⟨a, h.word hi b hle, sh_add hi⟩))
  · subst c; exact .inr (.inr (.inr ⟨a, h.word hi b hle, sh_add hi⟩))
mutual
theorem Ag.wfV (h : Ag s s' u v e) : ∀ (p : PT), WfV s p → u ≤ p.b → Stop s' u v e p.e → WfV s' (mvP u v p)
  | .mk k b f ns ks, hw, hb, hs => by
    have hb : u ≤ b := hb
    have hs : Stop s' u v e f := hs
    have hle : f ≤ e := by rcases hs with hs | ⟨hs, _⟩ <;> omega
    have hend := h.end'
    unfold WfV at hw
    unfold mvP WfV
    obtain ⟨h1, h2, hw⟩ := hw
    refine ⟨by unfold sh; omega, by unfold sh at hend ⊢; omega, ?_⟩
    rcases hw with ⟨a1, a2, a3⟩ | ⟨a1, a2, a3, a4, a5⟩ | ⟨a1, a2, a3, a4⟩ | ⟨a1, a2, a3⟩
    · subst a1; subst a2
      exact .inl ⟨rfl, by unfold mvL; rfl, h.lit hb h1 a3 hs⟩
    · subst a2; subst a3
      refine .inr (.inl ⟨a1, rfl, by unfold mvL; rfl, by rw [h.at' b hb (by omega)]; exact a4, ?_⟩)
      rw [← sh_add (u := u) (v := v) (i := b) (k := 1) hb]
      exact h.m_strE (Nat.le_refl _) (by omega) a5 hle
    · subst a2
      refine .inr (.inr (.inl ⟨a1, rfl, by rw [h.at' b hb (by omega)]; exact a3, ?_⟩))
      rw [← sh_add (u := u) (v := v) (i := b) (k := 1) hb]
      exact Ag.wfE h ks true (b + 1) f a4 (by omega) hle
    · refine .inr (.inr (.inr ⟨a1, by rw [h.at' b hb (by omega)]; exact a2, ?_⟩))
      rw [← sh_add (u := u) (v := v) (i := b) (k := 1) hb]
      exact Ag.wfM h ks ns true (b + 1) f a3 (by omega) hle
theorem Ag.wfE (h : Ag s s' u v e) : ∀ (ks : List PT) (first : Bool) (j r : Nat), WfE s first j ks r → u ≤ j → r ≤ e → WfE s' first (sh u v j) (mvL u v ks) (sh u v r)
  | [], first, j, r, hw, hj, hr => by
    unfold WfE at hw
    unfold mvL WfE
    have hg := bl_ge s j
    rw [h.m_bl hj (by omega), h.at' _ (by omega) (by omega)]
    exact ⟨hw.1, by rw [hw.2]; exact sh_add (by omega)⟩
  | p :: ks, first, j, r, hw, hj, hr => by
    unfold WfE at hw
    obtain ⟨h0, hv, hE⟩ := hw
    have a0 := Gk.wfE_le ks false p.e r hE
    have a1 := hv.lt
    have g := bl_ge s j
    have g2 := bl_ge s (bl s j + 1)
    have hjb : u ≤ p.b := by split at h0 <;> omega
    unfold mvL WfE
    refine ⟨?_, Ag.wfV h p hv hjb (.inl (by omega)), by rw [mvP_e]; exact Ag.wfE h ks false p.e r hE (by omega) hr⟩
    rw [mvP_b]
    cases first with
    | true =>
      have h0 : p.b = bl s j := h0
      show sh u v p.b = bl s' (sh u v j)
      rw [h.m_bl hj (by omega), h0]
    | false =>
      obtain ⟨c1, c2⟩ : bt s (bl s j : Int) = 44 ∧ p.b = bl s (bl s j + 1) := h0
      show bt s' (bl s' (sh u v j) : Int) = 44 ∧ sh u v p.b = bl s' (bl s' (sh u v j) + 1)
      rw [h.m_bl hj (by omega), h.at' _ (by omega) (by omega), ← sh_add (by omega), h.m_bl (by omega) (by omega), c2]
      exact ⟨c1, rfl⟩
theorem Ag.wfM (h : Ag s s' u v e) : ∀ (ks : List PT) (ns : List (Nat × Nat)) (first : Bool) (j r : Nat), WfM s first j ns ks r → u ≤ j → r ≤ e → WfM s' first (sh u v j) (ns.map fun n => (sh u v n.1, sh u v n.2)) (mvL u v ks) (sh u v r)
  | [], ns, first, j, r, hw, hj, hr => by
    unfold WfM at hw
    unfold mvL WfM
    have hg := bl_ge s j
    obtain ⟨rfl, hw1, hw2⟩ := hw
    rw [h.m_bl hj (by omega), h.at' _ (by omega) (by omega)]
    exact ⟨rfl, hw1, by rw [hw2]; exact sh_add (by omega)⟩
  | p :: ks, ns, first, j, r, hw, hj, hr => by
    unfold WfM at hw
    obtain ⟨n, ns', rfl, h0, hq, hs, hc, hb, hv, hM⟩ := hw
    have a0 := Gk.wfM_le ks ns' false p.e r hM
    have a1 := hv.lt
    have a2 := strE_le hs
    have a3 := bl_ge s n.2
    have a4 := bl_ge s (bl s n.2 + 1)
    have g := bl_ge s j
    have g2 := bl_ge s (bl s j + 1)
    have hjn : u ≤ n.1 ∧ bl s j ≤ n.1 := by split at h0 <;> omega
    unfold mvL WfM
    refine ⟨(sh u v n.1, sh u v n.2), ns'.map fun n => (sh u v n.1, sh u v n.2), rfl, ?_, ?_, ?_, ?_, ?_, Ag.wfV h p hv (by omega) (.inl (by omega)), by rw [mvP_e]; exact Ag.wfM h ks ns' false p.e r hM (by omega) hr⟩
    · cases first with
      | true =>
        have h0 : n.1 = bl s j := h0
        show sh u v n.1 = bl s' (sh u v j)
        rw [h.m_bl hj (by omega), h0]
      | false =>
        obtain ⟨c1, c2⟩ : bt s (bl s j : Int) = 44 ∧ n.1 = bl s (bl s j + 1) := h0
        show bt s' (bl s' (sh u v j) : Int) = 44 ∧ sh u v n.1 = bl s' (bl s' (sh u v j) + 1)
        rw [h.m_bl hj (by omega), h.at' _ (by omega) (by omega), ← sh_add (by omega), h.m_bl (by omega) (by omega), c2]
        exact ⟨c1, rfl⟩
    · show bt s' (sh u v n.1 : Int) = 34
      rw [h.at' _ hjn.1 (by omega)]; exact hq
    · show Pl.strE s' (sh u v n.1 + 1) = some (sh u v n.2)
      rw [← sh_add hjn.1]
      exact h.m_strE (Nat.le_refl _) (by omega) hs (by omega)
    · show bt s' (Pl.bl s' (sh u v n.2) : Int) = 58
      rw [h.m_bl (by omega) (by omega), h.at' _ (by omega) (by omega)]; exact hc
    · show (mvP u v p).b = Pl.bl s' (Pl.bl s' (sh u v n.2) + 1)
      rw [mvP_b, h.m_bl (by omega) (by omega), ← sh_add (by omega), h.m_bl (by omega) (by omega), hb]
end
end Go.Proofs.YtkpnomdmnhhaoaaGreatDoor.Ed
