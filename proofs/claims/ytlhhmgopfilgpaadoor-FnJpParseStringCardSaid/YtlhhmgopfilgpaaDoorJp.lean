/- jsonparser's Unescape and the reference's say the same. The reference's Unescape: its walk. No statement of the set is proved here. -/
import Derived.Test.YtlhhmgopfilgpaaDoorJj
namespace Go.Proofs.YtlhhmgopfilgpaaDoor.Je
open Go Go.Proofs Go.RowKit Go.Proofs.YtlhhmgopfilgpaaDoor.Rx Go.Proofs.YtlhhmgopfilgpaaDoor.Tr Go.Proofs.YtlhhmgopfilgpaaDoor.Pl Go.Proofs.YtlhhmgopfilgpaaDoor.Ut Go.Proofs.YtlhhmgopfilgpaaDoor.Ch Go.Proofs.YtlhhmgopfilgpaaDoor.Bw Go.Proofs.YtlhhmgopfilgpaaDoor.Uq Go.Proofs.YtlhhmgopfilgpaaDoor.Ql

/-- Whether every backslash begins an escape. -/
def vd (s : ByteArray) (i : Nat) : Bool :=
  if i < s.size then
    if bn s i ≠ 92 then vd s (i + 1)
    else match escE s (i + 1) with
      | none => false
      | some j => if i < j then vd s j else false
  else true
termination_by s.size - i
theorem vd_end {s : ByteArray} {i : Nat} (h : s.size ≤ i) : vd s i = true := by rw [vd, if_neg (by omega)]
theorem vd_plain {s : ByteArray} {i : Nat} (h : i < s.size) (hb : bn s i ≠ 92) : vd s i = vd s (i + 1) := by rw [vd, if_pos h, if_pos hb]
theorem vd_esc {s : ByteArray} {i j : Nat} (hb : bn s i = 92) (he : escE s (i + 1) = some j) : vd s i = vd s j := by
  have := escE_le he
  rw [vd, if_pos (by omega), if_neg (by simp [hb]), he]
  simp only
  rw [if_pos (by omega)]
theorem vd_bad {s : ByteArray} {i : Nat} (h : i < s.size) (hb : bn s i = 92) (he : escE s (i + 1) = none) : vd s i = false := by
  rw [vd, if_pos h, if_neg (by simp [hb]), he]
theorem isH_hv (s : ByteArray) (p : Nat) : isH (bt s (p : Int)) = (hv (bn s p)).isSome := by
  rw [bt_bn]
  unfold hv
  have := isH_iff (c := ((bn s p : Nat) : Int))
  split
  · rw [this.2 (by omega)]; rfl
  split
  · rw [this.2 (by omega)]; rfl
  split
  · rw [this.2 (by omega)]; rfl
  · cases hH : isH ((bn s p : Nat) : Int) with
    | false => rfl
    | true => exact absurd (this.1 hH) (by omega)
theorem ds_hex {s : ByteArray} {i n : Nat} (h : ds s i = some n) : hexE s (i + 2) 4 = some (i + 6) := by
  unfold ds at h
  split at h
  · rw [hx4] at h
    simp only [hexE, isH_hv]
    cases h2 : hv (bn s (i + 2)) with
    | none => rw [h2] at h; cases h
    | some d2 =>
    cases h3 : hv (bn s (i + 2 + 1)) with
    | none => rw [h2, h3] at h; cases h
    | some d3 =>
    cases h4 : hv (bn s (i + 2 + 2)) with
    | none => rw [h2, h3, h4] at h; cases h
    | some d4 =>
    cases h5 : hv (bn s (i + 2 + 3)) with
    | none => rw [h2, h3, h4, h5] at h; cases h
    | some d5 =>
    have h4 : hv (bn s (i + 2 + 1 + 1)) = some d4 := h4
    have h5 : hv (bn s (i + 2 + 1 + 1 + 1)) = some d5 := h5
    rfl
  · cases h
theorem ds_none {s : ByteArray} {i : Nat} (hi : i + 2 ≤ s.size) (h : ds s i = none) : hexE s (i + 2) 4 = none := by
  cases he : hexE s (i + 2) 4 with
  | none => rfl
  | some m =>
    obtain ⟨a, b⟩ := hexE_le he
    have hb := b hi
    unfold ds at h
    rw [if_pos (by omega), hx4] at h
    simp only [hexE, isH_hv] at he
    cases h2 : hv (bn s (i + 2)) with
    | none => rw [h2] at he; simp at he
    | some d2 =>
    cases h3 : hv (bn s (i + 2 + 1)) with
    | none => rw [h2, h3] at he; simp at he
    | some d3 =>
    cases h4 : hv (bn s (i + 2 + 1 + 1)) with
    | none => rw [h2, h3, h4] at he; simp at he
    | some d4 =>
    cases h5 : hv (bn s (i + 2 + 1 + 1 + 1)) with
    | none => rw [h2, h3, h4, h5] at he; simp at he
    | some d5 =>
    have h4 : hv (bn s (i + 2 + 2)) = some d4 := h4
    have h5 : hv (bn s (i + 2 + 3)) = some d5 := h5
    rw [h2, h3, h4, h5] at h
    cases h
theorem ds_uN {s : ByteArray} {i : Nat} (h0 : bn s i = 92) (h1 : bn s (i + 1) = 117) : uN s i = ds s i := by
  unfold uN ds
  by_cases h : i + 6 ≤ s.size
  · rw [if_pos h, if_pos ⟨h, h0, h1⟩]
  · rw [if_neg h, if_neg fun g => h g.1]
theorem enc_half {n : Nat} (h : 55296 ≤ n ∧ n ≤ 57343) : enc n = enc 65533 := by
  have e1 : enc n = [239, 191, 189] := by unfold enc; rw [if_neg (by omega), if_neg (by omega), if_pos h]
  have e2 : enc 65533 = [239, 191, 189] := by
    unfold enc
    rw [if_neg (by omega), if_neg (by omega), if_neg (by omega), if_pos (by omega)]
    rfl
  rw [e1, e2]
/-- The two sides at a place. -/
def Same (s : ByteArray) (i : Nat) : Prop := (vd s i = true → ∃ r, uo s i = some r ∧ ue s i = some r) ∧ (vd s i = false → ue s i = none)
theorem Same.of {s : ByteArray} {i j : Nat} {o : List UInt8} (h : Same s j) (h1 : vd s i = vd s j) (h2 : uo s i = (uo s j).map (o ++ ·)) (h3 : ue s i = (ue s j).map (o ++ ·)) : Same s i := by
  refine ⟨fun hv => ?_, fun hv => ?_⟩
  · obtain ⟨r, a, b⟩ := h.1 (by rw [← h1]; exact hv)
    exact ⟨o ++ r, by rw [h2, a]; rfl, by rw [h3, b]; rfl⟩
  · rw [h3, h.2 (by rw [← h1]; exact hv)]; rfl
theorem Same.bad {s : ByteArray} {i : Nat} (h1 : vd s i = false) (h2 : ue s i = none) : Same s i := ⟨fun h => (by rw [h1] at h; cases h), fun _ => h2⟩
theorem same_any {s : ByteArray} : ∀ (n i : Nat), s.size - i ≤ n → Same s i
  | 0, i, hn => ⟨fun _ => ⟨[], uo_end (by omega), ue_end (by omega)⟩, fun h => by rw [vd_end (by omega)] at h; cases h⟩
  | n + 1, i, hn => by
    rcases Nat.lt_or_ge i s.size with hlt | hge
    rotate_left
    · exact ⟨fun _ => ⟨[], uo_end hge, ue_end hge⟩, fun h => by rw [vd_end hge] at h; cases h⟩
    by_cases hb : bn s i = 92
    rotate_left
    · exact (same_any n (i + 1) (by omega)).of (o := [gb s i]) (vd_plain hlt hb) (uo_plain hlt hb) (ue_plain hlt hb)
    have hbt : bt s ((i + 1 : Nat) : Int) = ((bn s (i + 1) : Nat) : Int) := bt_bn s (i + 1)
    cases hX : isX (bt s ((i + 1 : Nat) : Int)) with
    | true =>
      have hne : ¬ bn s (i + 1) = 117 := fun e => by have := isX_iff.1 hX; omega
      have h1 : i + 1 < s.size := lt_of_bn (by have := isX_iff.1 hX; omega)
      have hst : stp s i = some (2, [sh (gb s (i + 1))]) := by unfold stp; rw [if_pos ⟨h1, hb⟩, hX, if_pos rfl]
      have hu : uN s i = none := by unfold uN; rw [if_neg fun g => hne g.2.2]
      exact (same_any n (i + 2) (by omega)).of (vd_esc hb (escE_x hX)) (uo_short hb hu h1) (ue_esc hb hst)
    | false =>
    by_cases h117 : bn s (i + 1) = 117
    rotate_left
    · refine .bad (vd_bad hlt hb (escE_no hX (by omega))) (ue_bad hlt hb ?_)
      unfold stp
      split
      · rw [hX]
        simp
      · rfl
    have h1 : i + 1 < s.size := lt_of_bn (by omega)
    have hE : escE s (i + 1) = hexE s (i + 2) 4 := escE_u (by omega)
    have hst : stp s i = (due s i).map fun p => (p.1, enc p.2) := by unfold stp; rw [if_pos ⟨h1, hb⟩, hX, if_neg (by decide), if_pos h117]
    have huN := ds_uN hb h117
    cases hd : ds s i with
    | none =>
      have hdu : due s i = none := by unfold due; rw [hd]
      exact .bad (vd_bad hlt hb (by rw [hE]; exact ds_none h1 hd)) (ue_bad hlt hb (by rw [hst, hdu]; rfl))
    | some m =>
    rw [hd] at huN
    have hm := ds_lt hd
    have hvd : vd s i = vd s (i + 6) := vd_esc hb (by rw [hE]; exact ds_hex hd)
    -- one escape
    have one : ∀ c, due s i = some (6, c) → pairU s i m = none → enc m = enc c → Same s i := fun c h2 h3 h4 =>
      (same_any n (i + 6) (by omega)).of (o := enc c) hvd (by rw [← h4]; exact uo_one huN h3) (ue_esc hb (by rw [hst, h2]; rfl))
    have low : ¬ (55296 ≤ m ∧ m ≤ 56319) → pairU s i m = none := fun h => by
      unfold pairU
      cases uN s (i + 6) with
      | none => rfl
      | some k => exact if_neg fun g => h g.1
    by_cases hsu : 55296 ≤ m ∧ m ≤ 57343
    rotate_left
    · exact one m (by unfold due; rw [hd]; simp only; rw [if_pos hsu]) (low (by omega)) rfl
    by_cases hlo : 56320 ≤ m
    · exact one 65533 (by unfold due; rw [hd]; simp only; rw [if_neg (by omega), if_pos hlo]) (low (by omega)) (enc_half hsu)
    have due0 : due s i = if s.size - i < 8 ∨ bn s (i + 6) ≠ 92 ∨ bn s (i + 7) ≠ 117 then some (6, 65533)
      else match ds s (i + 6) with
        | none => none
        | some k => if 56320 ≤ k ∧ k ≤ 57343 then some (12, 65536 + (m - 55296) * 1024 + (k - 56320)) else some (6, 65533) := by
      unfold due; rw [hd]; simp only; rw [if_neg (by omega), if_neg hlo]; rfl
    by_cases hc : s.size - i < 8 ∨ bn s (i + 6) ≠ 92 ∨ bn s (i + 7) ≠ 117
    · rw [if_pos hc] at due0
      refine one 65533 due0 ?_ (enc_half hsu)
      have : uN s (i + 6) = none := by
        unfold uN; rw [if_neg fun g => by
          have g2 := g.2.2
          have e : i + 6 + 1 = i + 7 := rfl
          rw [e] at g2
          rcases hc with h | h | h
          · omega
          · exact h g.2.1
          · exact h g2]
      unfold pairU; rw [this]
    rw [if_neg hc] at due0
    have h6 : bn s (i + 6) = 92 ∧ bn s (i + 6 + 1) = 117 ∧ i + 8 ≤ s.size := by
      refine ⟨Decidable.byContradiction fun h => hc (.inr (.inl h)), Decidable.byContradiction fun h => hc (.inr (.inr h)), ?_⟩
      rcases Nat.lt_or_ge (s.size - i) 8 with h | h
      · exact absurd (.inl h) hc
      · omega
    have huN6 := ds_uN h6.1 h6.2.1
    have hbt6 : bt s ((i + 6 + 1 : Nat) : Int) = ((bn s (i + 6 + 1) : Nat) : Int) := bt_bn s (i + 6 + 1)
    have hE6 : escE s (i + 6 + 1) = hexE s (i + 6 + 2) 4 := escE_u (by omega)
    cases hd6 : ds s (i + 6) with
    | none =>
      rw [hd6] at due0
      simp only at due0
      exact .bad (by rw [hvd]; exact vd_bad (by omega) h6.1 (by rw [hE6]; exact ds_none (by omega) hd6)) (ue_bad hlt hb (by rw [hst, due0]; rfl))
    | some k =>
      rw [hd6] at due0 huN6
      simp only at due0
      have hk := ds_lt hd6
      have hvd6 : vd s (i + 6) = vd s (i + 6 + 6) := vd_esc h6.1 (by rw [hE6]; exact ds_hex hd6)
      by_cases hkl : 56320 ≤ k ∧ k ≤ 57343
      · rw [if_pos hkl] at due0
        have hp : pairU s i m = some (65536 + (m - 55296) * 1024 + (k - 56320)) := by
          have e1 : m % 1024 = m - 55296 := by omega
          have e2 : k % 1024 = k - 56320 := by omega
          unfold pairU; rw [huN6]; simp only; rw [if_pos ⟨by omega, hkl⟩, e1, e2]
        exact (same_any n (i + 12) (by omega)).of (by rw [hvd, hvd6]) (uo_pair huN hp) (ue_esc hb (by rw [hst, due0]; rfl))
      · rw [if_neg hkl] at due0
        refine one 65533 due0 ?_ (enc_half hsu)
        unfold pairU; rw [huN6]; simp only; rw [if_neg fun g => hkl g.2]
theorem ueV_eq (s : ByteArray) : ue s 0 = if vd s 0 then uo s 0 else none := by
  have h := same_any (s := s) s.size 0 (by omega)
  cases hv : vd s 0 with
  | true => obtain ⟨r, a, b⟩ := h.1 hv; rw [a, b]; rfl
  | false => rw [h.2 hv]; rfl
end Go.Proofs.YtlhhmgopfilgpaaDoor.Je
