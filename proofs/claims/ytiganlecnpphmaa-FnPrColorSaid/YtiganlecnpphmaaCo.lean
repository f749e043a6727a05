/- pretty.Color: what the reference writes, and the steps of the code that write it. Plain; no statement of the set is proved here. -/
import Derived.Test.YtiganlecnpphmaaPw
import Derived.Test.YtiganlecnpphmaaBw
namespace Go.Proofs.Ytiganlecnpphmaa.Co
open Go Go.Proofs.Ytiganlecnpphmaa.Rx Go.Proofs.Ytiganlecnpphmaa.Pl Go.Proofs.Ytiganlecnpphmaa.Pw Go.Proofs.Ytiganlecnpphmaa.Bw

def sl (s : ByteArray) (a b : Nat) : List UInt8 := (s.data.toList.drop a).take (b - a)
abbrev Mk := Nat → List UInt8
def mk (m : Mk) (k : Nat) (l : List UInt8) : List UInt8 := m (2 * k) ++ l ++ m (2 * k + 1)
def gp (m : Mk) (s : ByteArray) (obj : Bool) (a b : Nat) : List UInt8 :=
  if a < b then (if obj && !isB (bt s (a : Int)) then mk m 7 [gb s a] else [gb s a]) ++ gp m s obj (a + 1) b else []
termination_by b - a
/-- Behind an escape. -/
def es (s : ByteArray) (a : Nat) : Nat := if bt s ((a + 1 : Nat) : Int) = 117 then a + 6 else a + 2
theorem es_gt (s : ByteArray) (a : Nat) : a + 2 ≤ es s a ∧ es s a ≤ a + 6 := by unfold es; split <;> omega
def qi (m : Mk) (k : Nat) (s : ByteArray) (a b : Nat) : List UInt8 :=
  if a < b then
    if bt s (a : Int) = 92 then m (2 * k + 1) ++ (mk m 6 (sl s a (es s a)) ++ (m (2 * k) ++ qi m k s (es s a) b))
    else gb s a :: qi m k s (a + 1) b
  else []
termination_by b - a
decreasing_by
  · have := es_gt s a; omega
  · omega
def qt (m : Mk) (k : Nat) (s : ByteArray) (a b : Nat) : List UInt8 := m (2 * k) ++ (qi m k s a b ++ m (2 * k + 1))
mutual
def colV (m : Mk) (s : ByteArray) : PT → List UInt8
  | .mk k b e ns ks =>
    if k = 0 then mk m 5 (sl s b e) else if k = 1 then mk m 4 (sl s b e) else if k = 2 then mk m 3 (sl s b e) else if k = 3 then mk m 2 (sl s b e)
    else if k = 4 then qt m 1 s b e
    else mk m 7 [gb s b] ++ (colK m s (decide (k = 6)) (b + 1) ns ks (e - 1) ++ mk m 7 [gb s (e - 1)])
def colK (m : Mk) (s : ByteArray) (obj : Bool) (a : Nat) (ns : List (Nat × Nat)) : List PT → Nat → List UInt8
  | [], fin => gp m s obj a fin
  | p :: ks, fin => (if obj then gp m s true a (ns.headD (0, 0)).1 ++ (qt m 0 s (ns.headD (0, 0)).1 (ns.headD (0, 0)).2 ++ gp m s true (ns.headD (0, 0)).2 p.b) else gp m s false a p.b) ++ (colV m s p ++ colK m s obj p.e ns.tail ks fin)
end
def colored (m : Mk) (s : ByteArray) (p : PT) : List UInt8 := gp m s false 0 p.b ++ (colV m s p ++ gp m s false p.e s.size)

theorem gp_end {m : Mk} {s : ByteArray} {obj : Bool} {a b : Nat} (h : b ≤ a) : gp m s obj a b = [] := by rw [gp, if_neg (by omega)]
theorem gp_on {m : Mk} {s : ByteArray} {obj : Bool} {a b : Nat} (h : a < b) : gp m s obj a b = (if obj && !isB (bt s (a : Int)) then mk m 7 [gb s a] else [gb s a]) ++ gp m s obj (a + 1) b := by rw [gp, if_pos h]
theorem gp_cut {m : Mk} {s : ByteArray} {obj : Bool} {b c : Nat} : ∀ {n a : Nat}, b - a = n → a ≤ b → b ≤ c → gp m s obj a c = gp m s obj a b ++ gp m s obj b c
  | 0, a, hn, h1, h2 => by
    have : a = b := by omega
    subst this; rw [gp_end (Nat.le_refl a)]; rfl
  | n + 1, a, hn, h1, h2 => by
    rw [gp_on (show a < c by omega), gp_on (show a < b by omega), gp_cut (n := n) (a := a + 1) (by omega) (by omega) h2, List.append_assoc]
theorem sl_on {s : ByteArray} {a b : Nat} (h : a < b) (hb : b ≤ s.size) : sl s a b = gb s a :: sl s (a + 1) b := by
  have hl : a < s.data.toList.length := by rw [Array.length_toList]; show a < s.size; omega
  unfold sl gb
  rw [List.drop_eq_getElem_cons hl, show b - a = (b - (a + 1)) + 1 by omega, List.take_succ_cons, List.getD_eq_getElem?_getD, List.getElem?_eq_getElem hl]; rfl
theorem sl_nil {s : ByteArray} {a : Nat} : sl s a a = [] := by unfold sl; rw [Nat.sub_self]; rfl
theorem sl_snoc {s : ByteArray} {a b : Nat} (h : a ≤ b) (hb : b < s.size) : sl s a (b + 1) = sl s a b ++ [gb s b] := by
  have hl : b < s.data.toList.length := by rw [Array.length_toList]; exact hb
  unfold sl gb
  rw [show b + 1 - a = (b - a) + 1 by omega, List.take_add_one, List.getElem?_drop, show a + (b - a) = b by omega, List.getD_eq_getElem?_getD, List.getElem?_eq_getElem hl]; rfl
theorem sl_len (s : ByteArray) (a b : Nat) : (sl s a b).length ≤ b - a := by unfold sl; rw [List.length_take]; omega

/-! ## The code's steps -/
def isD (c : Int) : Prop := c ≤ 32 ∨ c = 44 ∨ c = 58 ∨ c = 93 ∨ c = 125
abbrev St := List (Bool × Bool)
/-- A string's marks: a name's, or a string's. -/
def kq : St → Nat
  | (_, true) :: _ => 0
  | _ => 1
inductive Run (m : Mk) (s : ByteArray) : Nat → St → List UInt8 → Prop
  | done {i : Nat} {st : St} : s.size ≤ i → Run m s i st []
  | str {i : Nat} {st : St} {e : Nat} {out : List UInt8} : bt s (i : Int) = 34 → strE s (i + 1) = some e → Run m s e st out → Run m s i st (qt m (kq st) s i e ++ out)
  | op {i : Nat} {st : St} {out : List UInt8} (b : Bool) : (b = true ∧ bt s (i : Int) = 123 ∨ b = false ∧ bt s (i : Int) = 91) → Run m s (i + 1) ((b, b) :: st) out → Run m s i st (mk m 7 [gb s i] ++ out)
  | cl {i : Nat} {x : Bool × Bool} {st : St} {out : List UInt8} : bt s (i : Int) = 125 ∨ bt s (i : Int) = 93 → Run m s (i + 1) st out → Run m s i (x :: st) (mk m 7 [gb s i] ++ out)
  | sep {i : Nat} {k : Bool} {st : St} {out : List UInt8} : bt s (i : Int) = 58 ∨ bt s (i : Int) = 44 → Run m s (i + 1) ((true, !k) :: st) out → Run m s i ((true, k) :: st) (mk m 7 [gb s i] ++ out)
  | blank {i : Nat} {st : St} {out : List UInt8} : isB (bt s (i : Int)) = true → Run m s (i + 1) st out → Run m s i st (gb s i :: out)
  | comma {i : Nat} {k : Bool} {st : St} {out : List UInt8} : bt s (i : Int) = 44 → Run m s (i + 1) ((false, k) :: st) out → Run m s i ((false, k) :: st) (gb s i :: out)
  | lit {i e : Nat} {st : St} {k : Nat} {out : List UInt8} : i < e → e ≤ s.size → allL s i e → (e = s.size ∨ isD (bt s (e : Int))) →
      ((k = 2 ∧ numOk (bt s (i : Int)) = true) ∨ (k = 3 ∧ bt s (i : Int) = 116) ∨ (k = 4 ∧ bt s (i : Int) = 102) ∨ (k = 5 ∧ bt s (i : Int) = 110 ∧ i + 1 < s.size ∧ bt s ((i + 1 : Nat) : Int) = 117)) →
      Run m s e st out → Run m s i st (mk m k (sl s i e) ++ out)
variable {m : Mk} {s : ByteArray}
theorem run_gap {obj : Bool} {st : St} {out : List UInt8} : ∀ {n a b : Nat}, b - a = n → (∀ j, a ≤ j → j < b → isB (bt s (j : Int)) = true) → Run m s b st out → a ≤ b → Run m s a st (gp m s obj a b ++ out)
  | 0, a, b, hn, hb, h, hab => by
    have : a = b := by omega
    subst this; rw [gp_end (Nat.le_refl a)]; exact h
  | n + 1, a, b, hn, hb, h, hab => by
    have h0 := hb a (Nat.le_refl a) (by omega)
    rw [gp_on (by omega), h0]
    simp only [Bool.not_true, Bool.and_false, Bool.false_eq_true, if_false]
    exact .blank h0 (run_gap (n := n) (a := a + 1) (by omega) (fun j g1 g2 => hb j (by omega) g2) h (by omega))
theorem isD_blank {c : Int} (h : isB c = true) : isD c := by
  have := isB_iff.1 h
  unfold isD; omega
/-- What stands behind a value. -/
theorem behind {s : ByteArray} {j : Nat} {c : Int} (h : bt s (bl s j : Int) = c) (hc : isD c) : isD (bt s (j : Int)) := by
  rcases Nat.lt_or_ge j (bl s j) with g | g
  · exact isD_blank (bl_blank s j j (Nat.le_refl j) g)
  · have : bl s j = j := by have := bl_ge s j; omega
    rw [this] at h; rw [h]; exact hc
theorem colK_arr {j : Nat} {ns : List (Nat × Nat)} {p : PT} {ks : List PT} {fin : Nat} : colK m s false j ns (p :: ks) fin = gp m s false j p.b ++ (colV m s p ++ colK m s false p.e ns.tail ks fin) := by
  rw [colK]; simp only [Bool.false_eq_true, if_false]
theorem colK_obj {j : Nat} {n : Nat × Nat} {ns : List (Nat × Nat)} {p : PT} {ks : List PT} {fin : Nat} : colK m s true j (n :: ns) (p :: ks) fin = gp m s true j n.1 ++ (qt m 0 s n.1 n.2 ++ gp m s true n.2 p.b) ++ (colV m s p ++ colK m s true p.e ns ks fin) := by
  rw [colK]; simp only [if_true, List.headD_cons, List.tail_cons]
theorem colK_nil {obj : Bool} {j : Nat} {ns : List (Nat × Nat)} {fin : Nat} : colK m s obj j ns [] fin = gp m s obj j fin := by rw [colK]
mutual
theorem run_val : ∀ (p : PT) (st : St) (out : List UInt8), WfV s p → (p.e = s.size ∨ isD (bt s (p.e : Int))) → kq st = 1 → Run m s p.e st out → Run m s p.b st (colV m s p ++ out)
  | .mk k b e ns ks, st, out, h, he, hk, hr => by
    unfold WfV at h
    obtain ⟨hlt, hle, ⟨rfl, rfl, hL, h⟩ | ⟨rfl, rfl, rfl, h1, h2⟩ | ⟨rfl, rfl, h1, h2⟩ | ⟨rfl, h1, h2⟩⟩ := h
    · unfold colV
      have hn : nullW.size = 4 := rfl
      rcases h with ⟨rfl, h1, _⟩ | ⟨rfl, h1, rfl⟩ | ⟨rfl, h1, rfl⟩ | ⟨rfl, h1, rfl⟩
      · exact .lit hlt hle hL he (.inl ⟨rfl, h1⟩) hr
      · have a0 := wordB_at h1 0 (by decide)
        have a1 := wordB_at h1 1 (by decide)
        exact .lit hlt hle hL he (.inr (.inr (.inr ⟨rfl, a0, by show b + 1 < s.size; have hle : b + 4 ≤ s.size := hle; omega, a1⟩))) hr
      · have a0 := wordB_at h1 0 (by decide)
        exact .lit hlt hle hL he (.inr (.inr (.inl ⟨rfl, a0⟩))) hr
      · have a0 := wordB_at h1 0 (by decide)
        exact .lit hlt hle hL he (.inr (.inl ⟨rfl, a0⟩)) hr
    · unfold colV
      have := Run.str (m := m) (st := st) h1 h2 hr
      rw [hk] at this
      exact this
    · unfold colV
      rw [if_neg (by decide), if_neg (by decide), if_neg (by decide), if_neg (by decide), if_neg (by decide), List.append_assoc, List.append_assoc]
      exact .op false (.inr ⟨rfl, h1⟩) (run_E true ks (b + 1) e [] st out h2 hr)
    · unfold colV
      rw [if_neg (by decide), if_neg (by decide), if_neg (by decide), if_neg (by decide), if_neg (by decide), List.append_assoc, List.append_assoc]
      exact .op true (.inl ⟨rfl, h1⟩) (run_M true ks (b + 1) e ns st out h2 hr)
theorem run_E : ∀ (first : Bool) (ks : List PT) (j e : Nat) (ns : List (Nat × Nat)) (st : St) (out : List UInt8), WfE s first j ks e → Run m s e st out → Run m s j ((false, false) :: st) (colK m s false j ns ks (e - 1) ++ (mk m 7 [gb s (e - 1)] ++ out))
  | first, [], j, e, ns, st, out, h, hr => by
    unfold WfE at h
    obtain ⟨h1, rfl⟩ := h
    rw [colK_nil, Nat.add_sub_cancel]
    exact run_gap rfl (bl_blank s j) (.cl (.inr h1) hr) (bl_ge s j)
  | first, p :: ks, j, e, ns, st, out, h, hr => by
    unfold WfE at h
    obtain ⟨h1, h2, h3⟩ := h
    rw [colK_arr, List.append_assoc, List.append_assoc]
    have hbe : isD (bt s (p.e : Int)) := by
      cases ks with
      | nil => unfold WfE at h3; exact behind h3.1 (by unfold isD; omega)
      | cons q ks => unfold WfE at h3; exact behind h3.1.1 (by unfold isD; omega)
    have r := run_val p ((false, false) :: st) _ h2 (.inr hbe) rfl (run_E false ks p.e e ns.tail st out h3 hr)
    cases first with
    | true =>
      simp only [if_true] at h1
      rw [h1] at r ⊢
      exact run_gap rfl (bl_blank s j) r (bl_ge s j)
    | false =>
      simp only [Bool.false_eq_true, if_false] at h1
      obtain ⟨h1, h1'⟩ := h1
      have g1 := bl_ge s j
      have g2 := bl_ge s (bl s j + 1)
      rw [h1'] at r ⊢
      rw [gp_cut rfl g1 (show bl s j ≤ bl s (bl s j + 1) by omega), gp_on (show bl s j < bl s (bl s j + 1) by omega)]
      simp only [Bool.false_and, Bool.false_eq_true, if_false, List.append_assoc]
      exact run_gap rfl (bl_blank s j) (.comma h1 (run_gap rfl (bl_blank s _) r g2)) g1
theorem run_M : ∀ (first : Bool) (ks : List PT) (j e : Nat) (ns : List (Nat × Nat)) (st : St) (out : List UInt8), WfM s first j ns ks e → Run m s e st out → Run m s j ((true, first) :: st) (colK m s true j ns ks (e - 1) ++ (mk m 7 [gb s (e - 1)] ++ out))
  | first, [], j, e, ns, st, out, h, hr => by
    unfold WfM at h
    obtain ⟨_, h1, rfl⟩ := h
    rw [colK_nil, Nat.add_sub_cancel]
    exact run_gap rfl (bl_blank s j) (.cl (.inl h1) hr) (bl_ge s j)
  | first, p :: ks, j, e, ns, st, out, h, hr => by
    unfold WfM at h
    obtain ⟨n, ns', rfl, h1, hq, hs, hc, hb, h2, h3⟩ := h
    rw [colK_obj]
    have hbe : isD (bt s (p.e : Int)) := by
      cases ks with
      | nil => unfold WfM at h3; exact behind h3.2.1 (by unfold isD; omega)
      | cons q ks => unfold WfM at h3; obtain ⟨n', ns'', _, h4, _⟩ := h3; exact behind h4.1 (by unfold isD; omega)
    have r := run_val p ((true, false) :: st) _ h2 (.inr hbe) rfl (run_M false ks p.e e ns' st out h3 hr)
    -- the name, the colon
    have g1 := bl_ge s n.2
    have g2 := bl_ge s (bl s n.2 + 1)
    have ncol : isB (58 : Int) = false := by decide
    have ncom : isB (44 : Int) = false := by decide
    have r2 : Run m s n.2 ((true, true) :: st) (gp m s true n.2 p.b ++ (colV m s p ++ (colK m s true p.e ns' ks (e - 1) ++ (mk m 7 [gb s (e - 1)] ++ out)))) := by
      rw [hb] at r ⊢
      rw [gp_cut rfl g1 (show bl s n.2 ≤ bl s (bl s n.2 + 1) by omega), gp_on (show bl s n.2 < bl s (bl s n.2 + 1) by omega), hc, ncol]
      simp only [Bool.true_and, Bool.not_false, if_true, List.append_assoc]
      exact run_gap rfl (bl_blank s _) (.sep (.inl hc) (run_gap rfl (bl_blank s _) r g2)) g1
    have r3 : Run m s n.1 ((true, true) :: st) (qt m 0 s n.1 n.2 ++ (gp m s true n.2 p.b ++ (colV m s p ++ (colK m s true p.e ns' ks (e - 1) ++ (mk m 7 [gb s (e - 1)] ++ out))))) := .str hq hs r2
    simp only [List.append_assoc] at r3 ⊢
    cases first with
    | true =>
      simp only [if_true] at h1
      rw [h1] at r3 ⊢
      exact run_gap rfl (bl_blank s j) r3 (bl_ge s j)
    | false =>
      simp only [Bool.false_eq_true, if_false] at h1
      obtain ⟨h1, h1'⟩ := h1
      have g3 := bl_ge s j
      have g4 := bl_ge s (bl s j + 1)
      rw [h1'] at r3 ⊢
      rw [gp_cut rfl g3 (show bl s j ≤ bl s (bl s j + 1) by omega), gp_on (show bl s j < bl s (bl s j + 1) by omega), h1, ncom]
      simp only [Bool.true_and, Bool.not_false, if_true, List.append_assoc]
      exact run_gap rfl (bl_blank s j) (.sep (.inr h1) (run_gap rfl (bl_blank s _) r3 g4)) g3
end
/-- The whole. -/
theorem run_all {p : PT} (hb : p.b = bl s 0) (h : WfV s p) (he : bl s p.e = s.size) : Run m s 0 [] (colored m s p) := by
  have hl := h.lt
  have tail : Run m s p.e [] (gp m s false p.e s.size ++ []) := run_gap rfl (fun j g1 g2 => bl_blank s p.e j g1 (by omega)) (.done (Nat.le_refl _)) hl.2
  rw [List.append_nil] at tail
  have hbe : p.e = s.size ∨ isD (bt s (p.e : Int)) := by
    rcases Nat.lt_or_ge p.e s.size with g | g
    · exact .inr (isD_blank (bl_blank s p.e p.e (Nat.le_refl _) (by omega)))
    · exact .inl (by omega)
  have r := run_val p [] _ h hbe rfl tail
  unfold colored
  rw [hb] at r ⊢
  exact run_gap rfl (bl_blank s 0) r (Nat.zero_le _)
theorem qi_len (hm : ∀ k, (m k).length ≤ 64) (k : Nat) : ∀ (n a b : Nat), b - a ≤ n → (qi m k s a b).length ≤ 400 * (b - a)
  | 0, a, b, hn => by rw [qi, if_neg (by omega)]; simp
  | n + 1, a, b, hn => by
    rw [qi]
    split
    · split
      · have h1 := hm (2 * k + 1); have h2 := hm (2 * k); have h3 := hm 12; have h4 := hm 13
        have := es_gt s a
        have hl := sl_len s a (es s a)
        have ih := qi_len hm k n (es s a) b (by omega)
        simp only [mk, List.length_append]
        have h3 : (m (2 * 6)).length ≤ 64 := h3
        have h4 : (m (2 * 6 + 1)).length ≤ 64 := h4
        omega
      · have ih := qi_len hm k n (a + 1) b (by omega)
        simp only [List.length_cons]; omega
    · simp
theorem run_len (hm : ∀ k, (m k).length ≤ 64) {i : Nat} {st : St} {out : List UInt8} (h : Run m s i st out) : out.length ≤ 600 * (s.size - i) := by
  have hk : ∀ k l, (mk m k l).length ≤ 128 + l.length := fun k l => by
    have h1 := hm (2 * k); have h2 := hm (2 * k + 1)
    simp only [mk, List.length_append]; omega
  induction h with
  | done h => simp
  | @str i st e out h1 h2 h3 ih =>
    have := strE_le h2
    have hq := qi_len (m := m) (s := s) hm (kq st) _ i e (Nat.le_refl _)
    have h1 := hm (2 * kq st); have h2 := hm (2 * kq st + 1)
    simp only [qt, List.length_append]; omega
  | @op i st out b h1 h2 ih =>
    have : i < s.size := lt_of_bt (by omega)
    have := hk 7 [gb s i]
    simp only [List.length_append, List.length_cons, List.length_nil] at *; omega
  | @cl i x st out h1 h2 ih =>
    have : i < s.size := lt_of_bt (by omega)
    have := hk 7 [gb s i]
    simp only [List.length_append, List.length_cons, List.length_nil] at *; omega
  | @sep i k st out h1 h2 ih =>
    have : i < s.size := lt_of_bt (by omega)
    have := hk 7 [gb s i]
    simp only [List.length_append, List.length_cons, List.length_nil] at *; omega
  | @blank i st out h1 h2 ih =>
    have : i < s.size := lt_of_bt (by have := isB_iff.1 h1; omega)
    simp only [List.length_cons]; omega
  | @comma i k st out h1 h2 ih =>
    have : i < s.size := lt_of_bt (by omega)
    simp only [List.length_cons]; omega
  | @lit i e st k out h1 h2 h3 h4 h5 h6 ih =>
    have := hk k (sl s i e)
    have := sl_len s i e
    simp only [List.length_append]; omega
end Go.Proofs.Ytiganlecnpphmaa.Co
