/- strconv.ParseUint's answer at 64 bits is the reference's Uint64. Plain; no statement of the set is proved here. -/
import Derived.Test.YtbmmpnjpejamaaaDoorUu
import Derived.Lib.ParseIntB
namespace Go.Proofs.YtbmmpnjpejamaaaDoor.Nu
open Go Go.Proofs Go.Proofs.YtbmmpnjpejamaaaDoor.Rx Go.Proofs.YtbmmpnjpejamaaaDoor.Pl Go.Proofs.YtbmmpnjpejamaaaDoor.Ui

theorem drop_on {s : ByteArray} {j : Nat} (h : j < s.size) : ∃ c : UInt8, s.data.toList.drop j = c :: s.data.toList.drop (j + 1) ∧ bt s (j : Int) = (c.toNat : Int) := by
  have hl : j < s.data.toList.length := by rw [Array.length_toList]; exact h
  refine ⟨s.data.toList[j], List.drop_eq_getElem_cons hl, ?_⟩
  unfold bt
  rw [Int.toNat_natCast, List.getD_eq_getElem?_getD, List.getElem?_eq_getElem hl]; rfl
/-- Both say the same. -/
def Agree (s : ByteArray) (x : Lib.NumEnd Nat) : Prop := (∃ u, u64O s = some u ∧ x = .ok u) ∨ (u64O s = none ∧ (x = .range ∨ x = .syntax))
theorem agree_from {s : ByteArray} (h0 : 0 < s.size) : ∀ (n j : Nat), s.size - j ≤ n → j ≤ s.size → allD s 0 j → dv s 0 j < 18446744073709551616 → Agree s (Lib.parseUintM 18446744073709551615 (dv s 0 j) (s.data.toList.drop j))
  | n, j, hn, hj, hd, hv => by
    rcases Nat.lt_or_ge j s.size with hlt | hge
    rotate_left
    · have e : j = s.size := by omega
      subst e
      have : s.data.toList.drop s.size = [] := List.drop_eq_nil_of_le (by rw [Array.length_toList]; exact Nat.le_refl _)
      rw [this]
      exact .inl ⟨_, u64O_ok h0 hd hv, rfl⟩
    obtain ⟨c, hc, hb⟩ := drop_on hlt
    rw [hc]
    unfold Lib.parseUintM
    split
    · rename_i hdig
      have hdj : isDig (bt s (j : Int)) = true := isDig_iff.2 (by omega)
      have hdv : dv s 0 (j + 1) = dv s 0 j * 10 + (c.toNat - 48) := by
        show dv s 0 j * 10 + (bt s ((0 + j : Nat) : Int) - 48).toNat = _
        rw [Nat.zero_add, hb]; congr 1; omega
      split
      · exact .inr ⟨u64O_over (j := j + 1) hlt (by omega), .inl rfl⟩
      split
      · exact .inr ⟨u64O_over (j := j + 1) hlt (by omega), .inl rfl⟩
      · rw [← hdv]
        cases n with
        | zero => omega
        | succ n =>
          refine agree_from h0 n (j + 1) (by omega) hlt (fun k h1 h2 => ?_) (by omega)
          rcases Nat.lt_or_ge k j with g | g
          · exact hd k h1 g
          · have : k = j := by omega
            subst this; exact hdj
    · rename_i hdig
      refine .inr ⟨u64O_bad hlt ?_, .inr rfl⟩
      cases hx : isDig (bt s (j : Int)) with
      | false => rfl
      | true => have := isDig_iff.1 hx; omega
theorem agree {s : ByteArray} (h0 : 0 < s.size) : Agree s (Lib.parseUintB 64 s.data.toList) := by
  have h := agree_from h0 s.size 0 (by omega) (Nat.zero_le _) (allD_zero s 0) (by show 0 < 18446744073709551616; omega)
  unfold Lib.parseUintB
  rw [if_neg (fun e => by
    have : s.data.toList.length = 0 := by rw [e]; rfl
    rw [Array.length_toList] at this
    have : s.size = 0 := this
    omega)]
  exact h
end Go.Proofs.YtbmmpnjpejamaaaDoor.Nu
