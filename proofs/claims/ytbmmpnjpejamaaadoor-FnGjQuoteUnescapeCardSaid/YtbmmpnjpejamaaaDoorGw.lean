/- The end of a string, found by the backslashes ahead of a quotation mark. Plain; no statement of the set is proved here. -/
import Derived.Test.YtbmmpnjpejamaaaDoorGu
namespace Go.Proofs.YtbmmpnjpejamaaaDoor.Gw
open Go Go.Proofs.YtbmmpnjpejamaaaDoor.Rx Go.Proofs.YtbmmpnjpejamaaaDoor.Pl Go.Proofs.YtbmmpnjpejamaaaDoor.Ut Go.Proofs.YtbmmpnjpejamaaaDoor.Ch Go.Proofs.YtbmmpnjpejamaaaDoor.Bw Go.Proofs.YtbmmpnjpejamaaaDoor.Uq Go.Proofs.YtbmmpnjpejamaaaDoor.Gq Go.Proofs.YtbmmpnjpejamaaaDoor.Ql

/-- Whether an odd number of backslashes ends ahead of a place (from place 1 on). -/
def par (o : ByteArray) : Nat → Bool
  | 0 => false
  | 1 => false
  | p + 2 => if bn o (p + 1) = 92 then !par o (p + 1) else false
theorem par_92 {o : ByteArray} {p : Nat} (hp : 1 ≤ p) (h : bn o p = 92) : par o (p + 1) = !par o p := by
  obtain ⟨q, rfl⟩ : ∃ q, p = q + 1 := ⟨p - 1, by omega⟩
  rw [par, if_pos h]
theorem par_no {o : ByteArray} {p : Nat} (h : bn o p ≠ 92) : par o (p + 1) = false := by
  cases p with
  | zero => rfl
  | succ q => rw [par, if_neg h]
/-- A piece in which no quotation mark ends a string, and behind which no backslash is left. -/
def Pk (piece : List UInt8) : Prop := ∀ (o : ByteArray) (p : Nat) (r : List UInt8), 1 ≤ p → tl o p = piece ++ r → par o p = false →
  (∀ i, p ≤ i → i < p + piece.length → bn o i = 34 → par o i = true) ∧ par o (p + piece.length) = false
theorem Pk.nil : Pk [] := fun _ _ _ _ _ h => ⟨fun i h1 h2 _ => by simp at h2; omega, h⟩
theorem Pk.append {a b : List UInt8} (h1 : Pk a) (h2 : Pk b) : Pk (a ++ b) := fun o p r hp h h0 => by
  rw [List.append_assoc] at h
  obtain ⟨a1, a2⟩ := h1 o p _ hp h h0
  obtain ⟨b1, b2⟩ := h2 o _ _ (by omega) (tl_app h) a2
  rw [List.length_append, ← Nat.add_assoc]
  refine ⟨fun i g1 g2 => ?_, b2⟩
  rcases Nat.lt_or_ge i (p + a.length) with g | g
  · exact a1 i g1 g
  · exact b1 i g g2
theorem Pk.byte {c : UInt8} (h34 : c.toNat ≠ 34) (h92 : c.toNat ≠ 92) : Pk [c] := fun o p r hp h h0 => by
  obtain ⟨h1, h2, h3⟩ := tl_cons h
  refine ⟨fun i g1 g2 e => ?_, par_no (by rw [bn_gb h2]; exact h92)⟩
  have : i = p := by simp at g2; omega
  subst this
  rw [bn_gb h2] at e; exact absurd e h34
theorem Pk.bytes : ∀ (l : List UInt8), (∀ c ∈ l, c.toNat ≠ 34 ∧ c.toNat ≠ 92) → Pk l
  | [], _ => Pk.nil
  | c :: l, h => (Pk.byte (h c (by simp)).1 (h c (by simp)).2).append (Pk.bytes l fun d hd => h d (List.mem_cons_of_mem _ hd))
theorem Pk.esc (c : UInt8) : Pk [92, c] := fun o p r hp h h0 => by
  obtain ⟨h1, h2, h3⟩ := tl_cons h
  obtain ⟨h4, h5, h6⟩ := tl_cons h3
  have p1 : par o (p + 1) = true := by rw [par_92 hp (bn_gb h2), h0]; rfl
  refine ⟨fun i g1 g2 e => ?_, ?_⟩
  · have : i = p ∨ i = p + 1 := by simp at g2; omega
    rcases this with rfl | rfl
    · rw [bn_gb h2] at e; exact absurd e (by decide)
    · exact p1
  · show par o (p + 1 + 1) = false
    by_cases e : bn o (p + 1) = 92
    · rw [par_92 (by omega) e, p1]; rfl
    · exact par_no e
theorem hexd_ok : ∀ d : Nat, d < 16 → (hexd d).toNat ≠ 34 ∧ (hexd d).toNat ≠ 92 := by decide
theorem Pk.hex (n : Nat) : Pk ([92, 117] ++ hex4 n) := by
  refine (Pk.esc 117).append (Pk.bytes _ fun c hc => ?_)
  have m := fun a => Nat.mod_lt a (by decide : 0 < 16)
  simp only [hex4, List.mem_cons, List.mem_nil_iff, or_false] at hc
  rcases hc with rfl | rfl | rfl | rfl <;> exact hexd_ok _ (m _)
theorem pc_pk {s : ByteArray} {i n r : Nat} (h : ChA s i n r) : Pk (pc s i).1 := by
  have hw := h.width
  unfold pc
  split
  · split
    · exact Pk.esc 98
    split
    · exact Pk.esc 102
    split
    · exact Pk.esc 110
    split
    · exact Pk.esc 114
    split
    · exact Pk.esc 116
    · exact Pk.hex _
  split
  · exact Pk.hex _
  split
  · exact Pk.esc 92
  split
  · exact Pk.esc 34
  split
  · rename_i h127
    have h2 : 2 ≤ n := by
      rcases Nat.lt_or_ge 1 n with g | g
      · omega
      · have := (h.small (by omega)).1; omega
    rw [dc_of h]
    split
    · rename_i hbad
      have hbad : r = 65533 ∧ n = 1 := hbad
      omega
    split
    · rename_i hr
      have hr : r = 8232 ∨ r = 8233 := hr
      rcases hr with rfl | rfl
      · exact Pk.hex 8232
      · exact Pk.hex 8233
    · show Pk (s.extract i (i + n)).data.toList
      rw [extract_tl]
      refine Pk.bytes _ fun c hc => ?_
      obtain ⟨k, hk, rfl⟩ := mem_take hc
      have : 128 ≤ bn s (i + k) := by
        rcases Nat.eq_zero_or_pos k with h0 | h0
        · subst h0; have := (h.big h2).1; rw [Nat.add_zero]; omega
        · have := h.rest h0 hk; omega
      rw [gb_bn]; omega
  · exact Pk.byte (by rw [gb_bn]; omega) (by rw [gb_bn]; omega)
theorem qf_pk {s : ByteArray} {i : Nat} (h : U8 s i) : Pk (qf s i) := by
  induction h with
  | done => rw [qf_end (Nat.le_refl _)]; exact Pk.nil
  | @step i n r h _ ih =>
    have hw := h.width
    rw [qf_on (by omega), (pc_ok h).1]
    exact (pc_pk h).append ih
/-- A string that begins at 0 ends at e: its closing mark stands there. -/
structure QEnd (o : ByteArray) (e : Nat) : Prop where
  pos : 1 ≤ e
  lt : e < o.size
  mark : bn o e = 34
  even : par o e = false
  first : ∀ i, 1 ≤ i → i < e → bn o i = 34 → par o i = true
theorem qs_ends {s m : ByteArray} (h : U8 s 0) : QEnd (qs s ++ m) ((qf s 0).length + 1) := by
  have e : tl (qs s ++ m) 0 = 34 :: (qf s 0 ++ (34 :: m.data.toList)) := by
    show ((qs s ++ m).data.toList).drop 0 = _
    rw [List.drop_zero, ByteArray.data_append, Array.toList_append]
    show (34 :: qf s 0 ++ [34]) ++ m.data.toList = _
    simp
  obtain ⟨h1, h2, h3⟩ := tl_cons e
  obtain ⟨a1, a2⟩ := qf_pk h _ 1 _ (Nat.le_refl _) h3 rfl
  obtain ⟨h4, h5, h6⟩ := tl_cons (tl_app h3)
  have e1 : 0 + 1 + (qf s 0).length = (qf s 0).length + 1 := by omega
  have e2 : 1 + (qf s 0).length = (qf s 0).length + 1 := by omega
  rw [e1] at h4 h5
  rw [e2] at a1 a2
  exact ⟨by omega, h4, by rw [bn_gb h5]; rfl, a2, fun i g1 g2 => a1 i g1 g2⟩
/-- The backslashes counted backwards. -/
theorem par_count {o : ByteArray} {i n j : Nat} (hj : 1 ≤ j) (hb : bn o j = 92) (h : par o i = !(xor (par o (j + 1)) (decide (n % 2 = 1)))) :
    par o i = !(xor (par o j) (decide ((n + 1) % 2 = 1))) := by
  rw [h, par_92 hj hb]
  rcases Nat.mod_two_eq_zero_or_one n with g | g
  · have : (n + 1) % 2 = 1 := by omega
    simp [g, this]
  · have : (n + 1) % 2 = 0 := by omega
    simp [g, this]
theorem par_start {o : ByteArray} {i : Nat} (hi : 2 ≤ i) (hb : bn o (i - 1) = 92) : par o i = !(xor (par o (i - 2 + 1)) (decide (0 % 2 = 1))) := by
  have e1 : i - 2 + 1 = i - 1 := by omega
  have e2 : i = (i - 1) + 1 := by omega
  rw [e1]
  conv => lhs; rw [e2]
  rw [par_92 (by omega) hb]
  simp
theorem par_stop {o : ByteArray} {i j n : Nat} (hb : j = 0 ∨ bn o j ≠ 92) (h : par o i = !(xor (par o (j + 1)) (decide (n % 2 = 1)))) : par o i = decide (n % 2 = 0) := by
  have : par o (j + 1) = false := by
    rcases hb with rfl | g
    · rfl
    · exact par_no g
  rw [h, this]
  rcases Nat.mod_two_eq_zero_or_one n with g | g <;> simp [g]
end Go.Proofs.YtbmmpnjpejamaaaDoor.Gw
