/- The reference's decimal digits. No statement of the set is proved here. -/
import Derived.Test.YtbmmpnjpejamaaaDoorBw
import Derived.Test.YtbmmpnjpejamaaaDoorTr
import Derived.Test.YtbmmpnjpejamaaaDoorPd
import Derived.Lib.ItoaNum
import Derived.Deep.Upon
namespace Go.Proofs.YtbmmpnjpejamaaaDoor.Dg
open Go Go.Proofs Go.RowKit Go.Proofs.YtbmmpnjpejamaaaDoor.Rx Go.Proofs.YtbmmpnjpejamaaaDoor.Tr Go.Proofs.YtbmmpnjpejamaaaDoor.Pl Go.Proofs.YtbmmpnjpejamaaaDoor.Bw
open Go.Proofs.YtbmmpnjpejamaaaDoor.Sr (slV tBs tB)

theorem kp_then {S' : Nat → Prop} {w0 w w' : World} (h : Kp Off w0 w) (k : Kp S' w w') (hs : ∀ i, i < w0.heap.size → ¬ S' i) : Kp Off w0 w' :=
  ⟨k.os.trans h.os, k.tape.trans h.tape, k.output.trans h.output, Nat.le_trans h.size k.size, fun i hi _ => (k.block i (Nat.lt_of_lt_of_le hi h.size) (hs i hi)).trans (h.block i hi id)⟩
theorem dec_one {m : Nat} (h : m / 10 = 0) : Lib.decDigits m = [UInt8.ofNat (48 + m % 10)] := by
  rw [Lib.decDigits_one (by omega), show m % 10 = m by omega]
theorem dec_more {m : Nat} (h : m / 10 ≠ 0) : Lib.decDigits m = Lib.decDigits (m / 10) ++ [UInt8.ofNat (48 + m % 10)] := by
  rw [Lib.decDigits, dif_neg (by omega)]
theorem digitsOf_any {n : Nat} {w : World} (hn : n < 18446744073709551616) : Calls Tryd.prog 31 #[.int .u64 n] w fun e w' => e = .returned (.string ⟨(Lib.decDigits n).toArray⟩) ∧ Kp Off w w' := by
  refine spec_DigitsOf.calls _ ?_
  unfold spec_DigitsOf.t
  refine s_loop (fun k x w' => ∃ (m : Nat) (z : Sr.Sl) (l : List UInt8), k = m ∧ x = ((m : Int), z, ()) ∧ m ≤ n ∧ (l = [] ∨ 1 ≤ m) ∧ m * 10 ^ l.length ≤ n ∧ Lib.decDigits n = Lib.decDigits m ++ l ∧ BR w' w.heap.size z l ∧ (l = [] → z = (none, 0, 0)) ∧ Kp Off w w') n ((n : Int), (none, 0, 0), ()) rfl
    ⟨n, (none, 0, 0), [], rfl, rfl, Nat.le_refl _, .inl rfl, by simp, by simp, BR.nil _ _, fun _ => rfl, Kp.refl _ _⟩ ?_
  rintro k x w1 ⟨m, z, l, hkm, rfl, hm, hlm, hpow, hdec, hB, hz2, k1⟩
  subst hkm
  have hlen : l.length < 20 := by
    rcases hlm with rfl | hlm
    · exact (by decide : 0 < 20)
    · rcases Nat.lt_or_ge l.length 20 with g | g
      · exact g
      · have h1 : 10 ^ 20 ≤ 10 ^ l.length := Nat.pow_le_pow_right (by decide) g
        have h2 : 1 * 10 ^ l.length ≤ k * 10 ^ l.length := Nat.mul_le_mul_right _ hlm
        omega
  simp only [spec_DigitsOf.t1]
  have tm : Int.tmod (k : Int) (10 : Int) = ((k % 10 : Nat) : Int) := (Int.ofNat_tmod k 10).symm
  have td : Int.tdiv (k : Int) (10 : Int) = ((k / 10 : Nat) : Int) := (Int.ofNat_tdiv k 10).symm
  rw [tm, td, wrapU_in (n := (48 : Int) + ((k % 10 : Nat) : Int)) (by omega) (by omega), wrapB_in (n := (48 : Int) + ((k % 10 : Nat) : Int)) (by omega) (by omega), wrapU_in (n := ((k / 10 : Nat) : Int)) (by omega) (by omega)]
  have ed : Value.int .u8 ((48 : Int) + ((k % 10 : Nat) : Int)) = bv (UInt8.ofNat (48 + k % 10)) := by
    unfold bv
    rw [UInt8.toNat_ofNat_of_lt' (by simpa using (by omega : 48 + k % 10 < 256))]
    rfl
  rw [ed]
  generalize hd : UInt8.ofNat (48 + k % 10) = d
  have h1 := make_run (w := w1) [d] (by simp) (by simp)
  refine s_chk (by decide) (s_eff (some ⟨w1.heap.size, 0, none⟩, 1, 1) h1 ?_)
  have ka : Kp Off w1 (w1.alloc (.cells ([d].map bv).toArray tB)) := (Kp.refl _ w1).alloc _
  have hb1 : w.heap.size ≤ w1.heap.size := k1.size
  have hB1 : BR (w1.alloc (.cells ([d].map bv).toArray tB)) w.heap.size (some ⟨w1.heap.size, 0, none⟩, 1, 1) [d] := by
    refine ⟨rfl, .inr ⟨w1.heap.size, 1, _, rfl, hb1, heap_alloc_new w1 _, Nat.le_refl _, by simp only [maxLen]; omega, rfl, rfl⟩⟩
  have hBz : BR (w1.alloc (.cells ([d].map bv).toArray tB)) w.heap.size z l := hB.kp ka fun _ _ => id
  -- the bytes behind the new one
  have app : ∃ (x' : Sr.Sl) (w2 : World), (Builtin.append_ #[tBs, tBs] tBs #[slV (some ⟨w1.heap.size, 0, none⟩, 1, 1), .slice z.1 z.2.1 z.2.2]).run Tryd.prog (w1.alloc (.cells ([d].map bv).toArray tB)) = .ok (slV x') w2 ∧ BR w2 w.heap.size x' (d :: l) ∧ Kp Off w1 w2 := by
    rcases List.eq_nil_or_concat l with hl0 | hl0
    · subst hl0
      rw [hz2 rfl]
      have hr := run_append_nothing (w1.alloc (.cells ([d].map bv).toArray tB)) tBs tBs tBs tB _ Tryd.underlying48 (info_some (by kernel_rfl)) (some ⟨w1.heap.size, 0, none⟩) 1 1 (Nat.le_refl _) (.slice none 0 0) (Src.ofNil _ Tryd.underlying48 0)
      exact ⟨(some ⟨w1.heap.size, 0, none⟩, 1, 1), _, hr, hB1, ka⟩
    · have hne : l ≠ [] := by
        obtain ⟨a, b, rfl⟩ := hl0
        simp
      obtain ⟨g, cap, hz⟩ : ∃ g cap, z = (some ⟨g, 0, none⟩, l.length, cap) := by
        obtain ⟨_, ⟨_, h2⟩ | ⟨g, cap, cur, h1, _⟩⟩ := id hBz
        · exact absurd (List.eq_nil_of_length_eq_zero h2) hne
        · obtain ⟨a, b, c⟩ := z
          simp only [slV, Value.slice.injEq] at h1
          obtain ⟨rfl, rfl, rfl⟩ := h1
          exact ⟨g, c, rfl⟩
      subst hz
      have hcells := fun j u hj => World.ownsRow.cells (h := hBz) (g := g) rfl j u hj
      obtain ⟨x', w2, h2, h3, h4, _⟩ := hB1.app ⟨g, 0, none⟩ l.length cap l rfl (fun j u hj => hcells j (bv u) (by rw [List.getElem?_map, hj]; rfl)) (by simp only [List.length_cons, List.length_nil]; omega) (by simp; omega)
      exact ⟨x', w2, h2, h3, kp_then ka h4 fun i hi ho => by
        have ho : some i = some w1.heap.size := ho
        cases ho; omega⟩
  obtain ⟨x', w2, h2, hB2, k2⟩ := app
  refine s_eff x' h2 (s_chk (by decide) ?_)
  have k12 := k1.trans k2
  refine s_iteE (fun h0 => ?_) (fun h0 => s_leaf ?_)
  · have hn' : Lib.decDigits n = d :: l := by rw [hdec, dec_one (by omega), hd]; rfl
    rw [hn']
    refine s_eff (⟨(d :: l).toArray⟩ : ByteArray) hB2.toStr (s_leaf ?_)
    rw [if_neg (by decide)]
    exact ⟨rfl, rfl, k12⟩
  · rw [if_pos rfl]
    refine ⟨k / 10, (((k / 10 : Nat) : Int), x', ()), rfl, by omega, k / 10, x', d :: l, rfl, rfl, by omega, .inr (by omega), ?_, ?_, hB2, fun e => (by cases e), k12⟩
    · have h5 : k / 10 * 10 * 10 ^ l.length ≤ k * 10 ^ l.length := Nat.mul_le_mul_right _ (Nat.div_mul_le_self k 10)
      rw [List.length_cons, Nat.pow_succ, Nat.mul_comm (10 ^ l.length) 10, ← Nat.mul_assoc]
      omega
    · rw [hdec, dec_more (by omega), hd, List.append_assoc]; rfl
end Go.Proofs.YtbmmpnjpejamaaaDoor.Dg
