/- A star and a text behind it, each character behind a backslash: what such a pattern fits. No condition beyond the statement's own guards. -/
import Derived.Test.YtlhhmgopfilgpaaDoorLawMtLimit
import Derived.Test.YtlhhmgopfilgpaaDoorCh
import Derived.Test.YtlhhmgopfilgpaaDoorBw
namespace Go.Proofs.YtlhhmgopfilgpaaDoor.LawMtBehind
open Go Go.Proofs Go.RowKit Go.Proofs.YtlhhmgopfilgpaaDoor.Rx Go.Proofs.YtlhhmgopfilgpaaDoor.Tr Go.Proofs.YtlhhmgopfilgpaaDoor.Pl Go.Proofs.YtlhhmgopfilgpaaDoor.Ut Go.Proofs.YtlhhmgopfilgpaaDoor.Ms Go.Proofs.YtlhhmgopfilgpaaDoor.Jk Go.Proofs.YtlhhmgopfilgpaaDoor.Ch Go.Proofs.YtlhhmgopfilgpaaDoor.Bw Go.Proofs.YtlhhmgopfilgpaaDoor.LawMtLimit

/-- The first k bytes, each character behind a backslash. -/
def gl (t : ByteArray) : Nat → List UInt8
  | 0 => []
  | k + 1 => gl t k ++ (if cont (bn t k) then [gb t k] else [92, gb t k])
theorem gl_len (t : ByteArray) : ∀ k, k ≤ (gl t k).length ∧ (gl t k).length ≤ 2 * k
  | 0 => ⟨Nat.le_refl _, Nat.le_refl _⟩
  | k + 1 => by
    have := gl_len t k
    unfold gl; split <;> simp <;> omega
theorem gb_bn (t : ByteArray) (k : Nat) : (gb t k).toNat = bn t k := rfl
theorem guard_any {t : ByteArray} {w : World} (hs : t.size < 1000000) : Calls Tryd.prog 14 #[.string t] w fun e w' => e = .returned (.string ⟨(gl t t.size).toArray⟩) ∧ Kp Off w w' := by
  refine laws_mtGuard.calls _ ?_
  unfold laws_mtGuard.t
  refine s_loop (fun n x w' => ∃ (k : Nat) (z : Sr.Sl), n = t.size - k ∧ x = ((k : Int), z, ()) ∧ k ≤ t.size ∧ BR w' w.heap.size z (gl t k) ∧ Kp Off w w') t.size ((0 : Int), (none, 0, 0), ()) rfl
    ⟨0, (none, 0, 0), rfl, rfl, Nat.zero_le _, BR.nil _ _, Kp.refl _ _⟩ ?_
  rintro n x w1 ⟨k, z, rfl, rfl, hk, hB, k1⟩
  simp only [laws_mtGuard.t1]
  have hlen := gl_len t k
  have frame : ∀ {w2 : World} {z : Sr.Sl} {l : List UInt8} {w1 : World}, Kp Off w w1 → BR w1 w.heap.size z l → Kp (Own z) w1 w2 → Kp Off w w2 := fun k1 hB k2 => kp_then k1 k2 fun i hi ho => by have := (hB.block i ho).1; omega
  refine s_iteD (fun h => ?_) (fun h => ?_)
  · have lb := bn_lt t k
    refine s_cut (fun x w' => x = (decide (¬ cont (bn t k)), ()) ∧ w1 = w') ?_ ?_
    · refine s_chk (by omega) ?_
      rw [bt_bn]
      refine s_iteD (fun h => s_leaf ?_) (fun h => s_chk (by omega) (s_leaf ?_))
      · rw [if_pos rfl]
        refine ⟨(true, ()), rfl, ?_, rfl⟩
        rw [decide_eq_true (by omega)]; rfl
      · rw [if_pos rfl]
        refine ⟨(decide (((bn t k : Nat) : Int) > 191), ()), rfl, bpair ?_, rfl⟩
        simp only [decide_eq_true_eq]; omega
    rintro x w1' ⟨rfl, rfl⟩
    simp only [laws_mtGuard.t2]
    have fin : ∀ (z' : Sr.Sl) (w' : World), BR w' w.heap.size z' (gl t (k + 1)) → Kp Off w w' → (fun l' vs w'' => if l' = 1 then ∃ n' x', vs = (Sh.cons (.int .i64) (.cons .slice .nil)).vals x' ∧ n' < t.size - k ∧ ∃ (k : Nat) (z : Sr.Sl), n' = t.size - k ∧ x' = ((k : Int), z, ()) ∧ k ≤ t.size ∧ BR w'' w.heap.size z (gl t k) ∧ Kp Off w w''
        else l' = 0 ∧ ((Ending.returned (retVal vs)) = .returned (.string ⟨(gl t t.size).toArray⟩) ∧ Kp Off w w'')) 1 [.int .i64 (IntKind.wrap IntKind.i64 ((k : Int) + 1)), .slice z'.1 z'.2.1 z'.2.2] w' := by
      intro z' w' h1 h2
      show if (1 : Nat) = 1 then _ else _
      rw [if_pos rfl, wrap_in (by omega) (by omega)]
      exact ⟨t.size - (k + 1), (((k + 1 : Nat) : Int), z', ()), rfl, by omega, k + 1, z', rfl, rfl, by omega, h1, h2⟩
    refine s_iteD (fun hc => ?_) (fun hc => ?_)
    · have hg : gl t (k + 1) = (gl t k ++ [92]) ++ [gb t k] := by
        rw [gl, if_neg hc, List.append_assoc]; rfl
      refine s_put hB [92] k1.size (by simp; omega) rfl rfl rfl (by simp) (by simp) fun z2 w2 hB2 k2 _ => ?_
      have k12 := frame k1 hB k2
      refine s_chk (by omega) ?_
      rw [bt_bv]
      refine s_put hB2 [gb t k] k12.size (by simp; omega) rfl rfl rfl (by simp) (by simp) fun z3 w3 hB3 k3 _ => s_leaf ?_
      rw [← hg] at hB3
      exact fin z3 w3 hB3 (frame k12 hB2 k3)
    · have hc : cont (bn t k) := Decidable.not_not.1 hc
      have hg : gl t (k + 1) = gl t k ++ [gb t k] := by rw [gl, if_pos hc]
      refine s_chk (by omega) ?_
      rw [bt_bv]
      refine s_put hB [gb t k] k1.size (by simp; omega) rfl rfl rfl (by simp) (by simp) fun z3 w3 hB3 k3 _ => s_leaf ?_
      rw [← hg] at hB3
      exact fin z3 w3 hB3 (frame k1 hB k3)
  · have e : k = t.size := by omega
    subst e
    refine s_eff _ hB.toStr (s_leaf ?_)
    rw [if_neg (by decide)]
    exact ⟨rfl, rfl, k1⟩

/-! ## The pattern -/
def gp (t : ByteArray) (k : Nat) : ByteArray := ByteArray.mk #[42] ++ ⟨(gl t k).toArray⟩
theorem gp_list (t : ByteArray) (k : Nat) : (gp t k).data.toList = 42 :: gl t k := by simp [gp]
theorem gp_size (t : ByteArray) (k : Nat) : (gp t k).size = 1 + (gl t k).length := by
  have h : (gp t k).data.toList.length = (gp t k).size := by simp
  rw [← h, gp_list]; simp; omega
theorem gp_bn (t : ByteArray) (k j : Nat) : bn (gp t k) j = ((42 :: gl t k).getD j 0).toNat := by unfold bn; rw [gp_list]
theorem gl_pre (t : ByteArray) {a b : Nat} (h : a ≤ b) : ∃ r, gl t b = gl t a ++ r := by
  induction h with
  | refl => exact ⟨[], by simp⟩
  | step _ ih =>
    obtain ⟨r, hr⟩ := ih
    rw [gl, hr, List.append_assoc]
    exact ⟨_, rfl⟩
theorem gp_pre (t : ByteArray) {a b j : Nat} (h : a ≤ b) (hj : j < (gp t a).size) : bn (gp t b) j = bn (gp t a) j := by
  obtain ⟨r, hr⟩ := gl_pre t h
  rw [gp_bn, gp_bn, hr]
  rw [gp_size] at hj
  have : (42 :: (gl t a ++ r)) = (42 :: gl t a) ++ r := rfl
  rw [this]
  simp only [List.getD_eq_getElem?_getD]
  rw [List.getElem?_append_left (by simp; omega)]
theorem gp_le (t : ByteArray) {a b : Nat} (h : a ≤ b) : (gp t a).size ≤ (gp t b).size := by
  obtain ⟨r, hr⟩ := gl_pre t h
  rw [gp_size, gp_size, hr]; simp
theorem ba_ext {s t : ByteArray} (hz : s.size = t.size) (h : ∀ j, j < s.size → bn s j = bn t j) : s = t := by
  ext1
  apply Array.ext
  · exact hz
  · intro i h1 h2
    have := h i h1
    unfold bn at this
    have e1 : s.data.toList.getD i 0 = s.data[i] := by rw [List.getD_eq_getElem?_getD, List.getElem?_eq_getElem (by simpa using h1)]; simp
    have e2 : t.data.toList.getD i 0 = t.data[i] := by rw [List.getD_eq_getElem?_getD, List.getElem?_eq_getElem (by simpa using h2)]; simp
    rw [e1, e2] at this
    exact UInt8.toNat.inj this
theorem pfx_gp (t : ByteArray) {a b : Nat} (h : a ≤ b) : pfx (gp t b) (gp t a).size = gp t a := by
  have hle := gp_le t h
  refine ba_ext (pfx_size hle) fun j hj => ?_
  rw [pfx_size hle] at hj
  rw [pfx_bn hle hj, gp_pre t h hj]
theorem gp_star (t : ByteArray) (k : Nat) : Star (gp t k) := ⟨by rw [gp_bn]; rfl, by rw [gp_size]; omega⟩
theorem gp_last (t : ByteArray) (k : Nat) : bn (gp t (k + 1)) ((gp t (k + 1)).size - 1) = bn t k := by
  rw [gp_bn, gp_size, gl]
  split
  · simp only [List.length_append, List.length_singleton]
    rw [show 1 + ((gl t k).length + 1) - 1 = ((gl t k).length) + 1 by omega, List.getD_cons_succ]
    simp [List.getD_eq_getElem?_getD, gb_bn]
  · simp only [List.length_append, List.length_cons, List.length_nil]
    rw [show 1 + ((gl t k).length + (0 + 1 + 1)) - 1 = ((gl t k).length + 1) + 1 by omega, List.getD_cons_succ]
    simp [List.getD_eq_getElem?_getD, gb_bn]
theorem gp_mark (t : ByteArray) (k : Nat) (h : ¬ cont (bn t k)) : (gp t (k + 1)).size = (gp t k).size + 2 ∧ bn (gp t (k + 1)) (gp t k).size = 92 := by
  rw [gp_size, gp_size, gp_bn, gl, if_neg h]
  refine ⟨by simp; omega, ?_⟩
  rw [show 1 + (gl t k).length = (gl t k).length + 1 by omega, List.getD_cons_succ]
  simp [List.getD_eq_getElem?_getD]
theorem gp_cont (t : ByteArray) (k : Nat) (h : cont (bn t k)) : (gp t (k + 1)).size = (gp t k).size + 1 := by
  rw [gp_size, gp_size, gl, if_pos h]; simp; omega
theorem tb_congr {p q : ByteArray} : ∀ {e : Nat}, (∀ j, j < e → bn p j = bn q j) → tb p e = tb q e
  | 0, _ => rfl
  | e + 1, h => by
    unfold tb
    rw [h e (by omega), tb_congr fun j hj => h j (by omega)]
theorem tb_even (t : ByteArray) : ∀ a, tb (gp t a) (gp t a).size % 2 = 0
  | 0 => by
    have : (gp t 0).size = 0 + 1 := by rw [gp_size]; rfl
    rw [this]
    have h : bn (gp t 0) 0 ≠ 92 := by rw [(gp_star t 0).star]; decide
    simp [tb, h]
  | a + 1 => by
    have ih := tb_even t a
    have hl := gp_last t a
    by_cases hc : cont (bn t a)
    · have hz := gp_cont t a hc
      rw [hz, Nat.add_sub_cancel] at hl
      rw [hz, tb, if_neg (by rw [hl]; omega)]
    · obtain ⟨hz, hm⟩ := gp_mark t a hc
      rw [hz, show (gp t a).size + 2 - 1 = (gp t a).size + 1 by omega] at hl
      rw [hz, tb]
      split
      · rw [tb, if_pos hm, tb_congr fun j hj => gp_pre t (Nat.le_succ a) hj]
        omega
      · rfl
/-- A character of the text, behind its backslash, at the pattern's end. -/
theorem gp_char {t : ByteArray} {a n r : Nat} (h : ChA t a n r) : ∀ k, 1 ≤ k → k ≤ n → (gp t (a + k)).size = (gp t a).size + 1 + k ∧ bn (gp t (a + k)) (gp t a).size = 92 ∧ ∀ j, j < k → bn (gp t (a + k)) ((gp t a).size + 1 + j) = bn t (a + j) := by
  intro k
  induction k with
  | zero => intro h1; omega
  | succ k ih =>
    intro h1 h2
    rcases Nat.eq_zero_or_pos k with hk | hk
    · subst hk
      obtain ⟨hz, hm⟩ := gp_mark t a h.head
      refine ⟨by omega, hm, fun j hj => ?_⟩
      have : j = 0 := by omega
      subst this
      have hl := gp_last t a
      rw [hz] at hl
      exact hl
    · obtain ⟨b1, b2, b3⟩ := ih hk (by omega)
      have hc := h.rest hk (by omega)
      have hz := gp_cont t (a + k) hc
      have e : a + (k + 1) = (a + k) + 1 := rfl
      rw [e]
      refine ⟨by omega, by rw [gp_pre t (Nat.le_succ _) (by omega)]; exact b2, fun j hj => ?_⟩
      rcases Nat.lt_or_ge j k with g | g
      · rw [gp_pre t (Nat.le_succ _) (by omega)]; exact b3 j g
      · have : j = k := by omega
        subst this
        have hl := gp_last t (a + j)
        rw [hz, Nat.add_sub_cancel, b1] at hl
        exact hl
theorem gp_dl {t : ByteArray} {a n r : Nat} (h : ChA t a n r) : dl (gp t (a + n)) = (r, n) ∧ esc (gp t (a + n)) = true ∧ cutP (gp t (a + n)) = (gp t a).size := by
  have hw := h.width
  obtain ⟨b1, b2, b3⟩ := gp_char h n hw.1 (Nat.le_refl _)
  have hd : dl (gp t (a + n)) = (r, n) := dl_of (a := (gp t a).size + 1) (h.moved (by omega) b3) (by omega)
  have he : esc (gp t (a + n)) = true := by
    unfold esc
    rw [hd, b1]
    simp only
    rw [show (gp t a).size + 1 + n - n = (gp t a).size + 1 by omega, tb, if_pos b2, tb_congr fun j hj => gp_pre t (Nat.le_add_right a n) hj]
    have := tb_even t a
    simp; omega
  refine ⟨hd, he, ?_⟩
  unfold cutP
  rw [hd, he, b1]
  simp only [if_true]; omega
/-- The first i bytes of s end with the first k of t. -/
def Ends (s t : ByteArray) (i k : Nat) : Prop := k ≤ i ∧ ∀ j, j < k → bn s (i - k + j) = bn t j
instance (s t : ByteArray) (i k : Nat) : Decidable (Ends s t i k) := by unfold Ends; infer_instance
theorem ends_step {s t : ByteArray} {a b n : Nat} (h : ∀ j, j < n → bn s (a + j) = bn t (b + j)) : Ends s t (a + n) (b + n) ↔ Ends s t a b := by
  unfold Ends
  constructor
  · rintro ⟨h1, h2⟩
    refine ⟨by omega, fun j hj => ?_⟩
    have := h2 j (by omega)
    rw [show a + n - (b + n) + j = a - b + j by omega] at this
    exact this
  · rintro ⟨h1, h2⟩
    refine ⟨by omega, fun j hj => ?_⟩
    rw [show a + n - (b + n) + j = a - b + j by omega]
    rcases Nat.lt_or_ge j b with g | g
    · exact h2 j g
    · have := h (j - b) (by omega)
      rw [show a + (j - b) = a - b + j by omega, show b + (j - b) = j by omega] at this
      exact this
theorem mts_gp {s t : ByteArray} : ∀ {k : Nat}, Bd t k → ∀ K, k ≤ K → ∀ i, Bd s i → (Ends s t i k → (mts s (gp t K) i (gp t k).size).2 = (1, true)) ∧
    (¬ Ends s t i k → (mts s (gp t K) i (gp t k).size).2.2 = false ∨ ((mts s (gp t K) i (gp t k).size).1 = 0 ∧ ∃ a, 0 < a ∧ Bd t a ∧ a ≤ k ∧ (mts s (gp t K) i (gp t k).size).2 = ((gp t a).size, true))) := by
  intro k hk
  induction hk with
  | zero =>
    intro K _ i _
    have hz : (gp t 0).size = 1 := by rw [gp_size]; rfl
    rw [hz, mts_no (by omega)]
    exact ⟨fun _ => rfl, fun h => absurd ⟨Nat.zero_le _, fun j hj => by omega⟩ h⟩
  | @step a n r hba hc ih =>
    intro K hK i hi
    have hw := hc.width
    obtain ⟨d1, d2, d3⟩ := gp_dl hc
    have hpk := pfx_gp t hK
    have hsz := (gp_char hc n hw.1 (Nat.le_refl _)).1
    cases hi with
    | zero =>
      rw [mts_no (by omega)]
      exact ⟨fun h => by have := h.1; omega, fun _ => .inr ⟨rfl, a + n, by omega, hba.step hc, Nat.le_refl _, rfl⟩⟩
    | @step i' n' r' hbi hci =>
      have hw' := hci.width
      have hd : dl (pfx s (i' + n')) = (r', n') := dl_of (a := i') ((ChA.pfx hw'.2.2 (Nat.le_refl _)).2 hci) (by rw [pfx_size hw'.2.2])
      have hpos : 0 < i' + n' ∧ 1 < (gp t (a + n)).size := by
        have := (gp_star t a).pos; omega
      have c1 : ¬ ((dl (pfx (gp t K) (gp t (a + n)).size)).1 = 42 ∧ esc (pfx (gp t K) (gp t (a + n)).size) = false) := by
        rw [hpk, d2]; rintro ⟨_, h⟩; cases h
      by_cases hr : r = r'
      · subst hr
        obtain ⟨rfl, hb⟩ := hc.same hci
        have c2 : ((dl (pfx (gp t K) (gp t (a + n)).size)).1 = 63 ∧ esc (pfx (gp t K) (gp t (a + n)).size) = false) ∨ (dl (pfx (gp t K) (gp t (a + n)).size)).1 = (dl (pfx s (i' + n))).1 := by
          right; rw [hpk, d1, hd]
        rw [mts_on hw'.2.2 hpos c1 c2, hpk, hd, d3, Nat.add_sub_cancel]
        have hE := ends_step (s := s) (t := t) (a := i') (b := a) (n := n) fun j hj => (hb j hj).symm
        obtain ⟨e1, e2⟩ := ih K (by omega) i' hbi
        refine ⟨fun h => e1 (hE.1 h), fun h => ?_⟩
        rcases e2 (fun g => h (hE.2 g)) with g | ⟨g1, c, g2, g3, g4, g5⟩
        · exact .inl g
        · exact .inr ⟨g1, c, g2, g3, by omega, g5⟩
      · have c2 : ¬ (((dl (pfx (gp t K) (gp t (a + n)).size)).1 = 63 ∧ esc (pfx (gp t K) (gp t (a + n)).size) = false) ∨ (dl (pfx (gp t K) (gp t (a + n)).size)).1 = (dl (pfx s (i' + n'))).1) := by
          rw [hpk, d1, d2, hd]
          rintro (⟨_, h⟩ | h)
          · cases h
          · exact hr h
        rw [mts_bad hpos c1 c2]
        refine ⟨fun h => ?_, fun _ => .inl rfl⟩
        exfalso
        have h1 : ChA s (i' + n' - n) n r := hc.moved (by have := h.1; omega) fun j hj => by
          have := h.2 (a + j) (by omega)
          rw [show i' + n' - (a + n) + (a + j) = i' + n' - n + j by have := h.1; omega] at this
          exact this
        have h2 : dl (pfx s (i' + n')) = (r, n) := dl_of (a := i' + n' - n) ((ChA.pfx hw'.2.2 (by have := h.1; omega)).2 h1) (by rw [pfx_size hw'.2.2]; have := h.1; omega)
        rw [hd] at h2
        exact hr (congrArg Prod.fst h2).symm
theorem gp_zero (t : ByteArray) : gp t 0 = starW := by unfold gp starW; rfl
/-- What the pattern fits. -/
theorem behind {s t : ByteArray} (hs : U8 s 0) (ht : U8 t 0) (h0 : 0 < t.size) (f : Nat) : M (f + 2) s (gp t t.size) = decide (Ends s t s.size t.size) := by
  have hbs := hs.bd .zero
  have hbt := ht.bd .zero
  have hS := gp_star t t.size
  have hl := gl_len t t.size
  have hz : 1 < (gp t t.size).size := by rw [gp_size]; omega
  have hd0 : dc (gp t t.size) 0 = (42, 1) := by rw [dc_low (by rw [hS.star]; decide), hS.star]
  have mark : ∀ a, 0 < a → Bd t a → (gp t a).size ≤ (gp t t.size).size ∧ 1 < (gp t a).size ∧ bn (gp t a) 1 = 92 := by
    intro a ha hba
    have hle := hba.le
    have hg := gl_len t a
    have hz' := gp_size t a
    refine ⟨gp_le t hle, by omega, ?_⟩
    have h1 : (gp t 0).size = 1 := by rw [gp_size]; rfl
    obtain ⟨n, r, hc, _⟩ := ht.head h0
    have := gp_mark t 0 hc.head
    rw [h1] at this
    have h3 : (gp t 1).size = 3 := this.1
    have h4 : bn (gp t 1) 1 = 92 := this.2
    rw [gp_pre t (show 1 ≤ a by omega) (by omega)]
    exact h4
  have hst : stars (gp t t.size) 0 = 0 := stars_end (by
    rintro ⟨_, h⟩
    have h : bn (gp t t.size) 1 = 42 := h
    have := (mark t.size h0 hbt).2.2
    omega)
  rw [M_pos hS.pos, hd0, if_neg (by decide), if_pos rfl, hst, sfx_zero]
  unfold starM
  rw [if_neg (by omega)]
  obtain ⟨e1, e2⟩ := mts_gp (s := s) hbt t.size (Nat.le_refl _) s.size hbs
  by_cases h : Ends s t s.size t.size
  · have e := e1 h
    rw [e, if_neg (by decide), if_pos rfl, decide_eq_true h]
  · rw [decide_eq_false h]
    rcases e2 h with g | ⟨g1, a, g2, g3, g4, g5⟩
    · rw [if_pos g]
    · obtain ⟨m1, m2, m3⟩ := mark a g2 g3
      rw [g5, if_neg (fun e : true = false => Bool.noConfusion e), if_neg (show ¬ (gp t a).size = 1 by omega), g1, if_pos rfl]
      have hp : pfx (gp t t.size) ((gp t a).size, true).1 = gp t a := pfx_gp t g3.le
      rw [hp]
      have hz2 := sfx_size (gp t a) 1
      have hd1 : dc (sfx (gp t a) 1) 0 = (92, 1) := by
        have hb : bn (sfx (gp t a) 1) 0 = 92 := by rw [sfx_bn]; exact m3
        rw [dc_low (by rw [hb]; decide), hb]
      have hz3 : (pfx s 0).size = 0 := pfx_size (Nat.zero_le _)
      have : M (f + 1) (pfx s 0) (sfx (gp t a) 1) = false := by
        rw [M_pos (by omega), hd1, if_neg (by decide), if_neg (by decide), if_pos (Nc_zero.2 hz3)]
      rw [if_neg (by rw [this]; decide)]
theorem ends_iff {s t : ByteArray} : Ends s t s.size t.size ↔ t.size ≤ s.size ∧ sfx s (s.size - t.size) = t := by
  constructor
  · rintro ⟨h1, h2⟩
    refine ⟨h1, ba_ext (by rw [sfx_size]; omega) fun j hj => ?_⟩
    rw [sfx_size] at hj
    rw [sfx_bn]; exact h2 j (by omega)
  · rintro ⟨h1, h2⟩
    refine ⟨h1, fun j _ => ?_⟩
    rw [← sfx_bn, h2]
theorem walk (s t : ByteArray) (w : World) (hs : s.size ≤ 140737488351232) (ht : t.size ≤ 140737488351232) (hL : laidMetH Tryd.prog Rows.fnMtBehindRow.laid w) :
    Calls Tryd.prog 5 #[.string s, .string t] w fun e w' => e = .returned (.bool true) ∧ RowKit.Below w.heap.size w w' := by
  have hT : Tb w := tabs (laid_of_H hL (by kernel_rfl))
  refine laws_FnMtBehind.calls _ _ ?_
  unfold laws_FnMtBehind.t
  have done : ∀ (w1 : World), Kp Off w w1 → (Ending.returned (retVal [.bool true]) = .returned (.bool true) ∧ RowKit.Below w.heap.size w w1) := fun w1 h => ⟨rfl, h.belowOff⟩
  refine s_cut (fun x w' => ∃ b, x = (b, ()) ∧ w = w') ?_ ?_
  · refine s_iteD (fun _ => s_leaf ?_) (fun _ => s_leaf ?_)
    · rw [if_pos rfl]; exact ⟨(true, ()), rfl, _, rfl, rfl⟩
    · rw [if_pos rfl]; exact ⟨(decide ((((ByteArray.size t) : Nat) : Int) > (2147483647 : Int)), ()), rfl, _, rfl, rfl⟩
  rintro x w1 ⟨b, rfl, rfl⟩
  simp only [laws_FnMtBehind.t1]
  refine s_ite (fun _ => s_leaf ⟨rfl, done w (Kp.refl _ _)⟩) (fun _ => ?_)
  refine s_cut (fun x w' => w = w' ∧ ∃ b, x = (b, ()) ∧ (b = false → s.size ≤ 4096 ∧ t.size ≤ 4096 ∧ U8 s 0 ∧ U8 t 0)) ?_ ?_
  · refine s_iteD (fun h => s_leaf ?_) (fun h => ?_)
    · rw [if_pos rfl]; exact ⟨(true, ()), rfl, rfl, true, rfl, fun h => by cases h⟩
    refine s_iteD (fun h2 => s_leaf ?_) (fun h2 => ?_)
    · rw [if_pos rfl]; exact ⟨(true, ()), rfl, rfl, true, rfl, fun h => by cases h⟩
    refine s_call (utf8_any (s := s) (by omega)) ?_
    rintro e w1 ⟨rfl, b1, rfl, hb1⟩
    refine ⟨b1, rfl, ?_⟩
    cases b1 with
    | false =>
      refine sat_iteT.2 (s_leaf ?_)
      rw [if_pos rfl]; exact ⟨(true, ()), rfl, rfl, true, rfl, fun h => by cases h⟩
    | true =>
    refine sat_iteF.2 (s_call (utf8_any (s := t) (by omega)) ?_)
    rintro e w2 ⟨rfl, b2, rfl, hb2⟩
    refine ⟨b2, rfl, s_leaf ?_⟩
    rw [if_pos rfl]
    refine ⟨(!b2, ()), rfl, rfl, !b2, rfl, fun h => ⟨by omega, by omega, hb1.1 rfl, hb2.1 (by cases b2 with | true => rfl | false => cases h)⟩⟩
  rintro x w1 ⟨rfl, b, rfl, hb⟩
  simp only [laws_FnMtBehind.t2]
  refine s_ite (fun _ => s_leaf ⟨rfl, done w (Kp.refl _ _)⟩) (fun hbf => ?_)
  obtain ⟨z1, z2, us, ut⟩ := hb hbf
  refine s_call (guard_any (t := t) (by omega)) ?_
  rintro e w1 ⟨rfl, k1⟩
  refine ⟨_, rfl, ?_⟩
  have hl := gl_len t t.size
  have hgz := gp_size t t.size
  refine s_chk (by
    have : (ByteArray.size ⟨(gl t t.size).toArray⟩) = (gl t t.size).length := List.size_toArray
    rw [this]; omega) ?_
  refine s_call (match_plain (s := s) (p := gp t t.size) (by omega) (by omega) (hT.off k1)) ?_
  rintro e w2 ⟨rfl, k2⟩
  have k12 := k1.trans k2
  refine ⟨_, rfl, ?_⟩
  have key : (if gp t t.size = starW then true else M (s.size + (gp t t.size).size + 1) s (gp t t.size)) = decide (Ends s t s.size t.size) := by
    rcases Nat.eq_zero_or_pos t.size with h0 | h0
    · rw [h0, if_pos (gp_zero t), decide_eq_true]
      exact ⟨Nat.zero_le _, fun j hj => by omega⟩
    · have hne : gp t t.size ≠ starW := fun e => by
        rw [e] at hgz
        have : starW.size = 1 := rfl
        omega
      rw [if_neg hne]
      have := behind us ut h0 (s.size + (gp t t.size).size - 1)
      rw [show s.size + (gp t t.size).size - 1 + 2 = s.size + (gp t t.size).size + 1 by have := (gp_star t t.size).pos; omega] at this
      exact this
  rw [key]
  refine s_iteD (fun h => ?_) (fun h => s_leaf ⟨rfl, ?_⟩)
  · rw [wrap_in (by omega) (by omega)]
    refine s_chk (by omega) (s_leaf ⟨rfl, ?_⟩)
    have e1 : ByteArray.extract s (Int.toNat ((((ByteArray.size s) : Nat) : Int) - (((ByteArray.size t) : Nat) : Int))) (Int.toNat (((ByteArray.size s) : Nat) : Int)) = sfx s (s.size - t.size) := by
      rw [show (((ByteArray.size s) : Nat) : Int) - (((ByteArray.size t) : Nat) : Int) = ((s.size - t.size : Nat) : Int) by omega]
      exact extract_sfx s _
    rw [e1]
    have e2 : (decide (Ends s t s.size t.size) == strEq (sfx s (s.size - t.size)) t) = true := by
      rw [beq_iff_eq, Bool.eq_iff_iff, decide_eq_true_eq, strEq_iff, ends_iff]
      exact ⟨fun g => g.2, fun g => ⟨by omega, g⟩⟩
    rw [e2]
    exact done w2 k12
  · have e2 : (!decide (Ends s t s.size t.size)) = true := by
      rw [Bool.not_eq_true', decide_eq_false_iff_not]
      exact fun g => by have := g.1; omega
    rw [e2]
    exact done w2 k12
end Go.Proofs.YtlhhmgopfilgpaaDoor.LawMtBehind
