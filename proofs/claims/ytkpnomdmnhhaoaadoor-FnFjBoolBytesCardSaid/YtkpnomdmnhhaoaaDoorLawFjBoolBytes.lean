/- laws.FnFjBoolBytes is true for every text: the walk. Its conditions: the text is no longer than the form says. -/
import Derived.Test.YtkpnomdmnhhaoaaDoorZk
import Derived.Test.YtkpnomdmnhhaoaaDoorRows
namespace Go.Proofs.YtkpnomdmnhhaoaaDoor.LawFjBoolBytes
open Go Go.Proofs Go.RowKit Go.Proofs.YtkpnomdmnhhaoaaDoor.Rx Go.Proofs.YtkpnomdmnhhaoaaDoor.Tr Go.Proofs.YtkpnomdmnhhaoaaDoor.Pl Go.Proofs.YtkpnomdmnhhaoaaDoor.Pw Go.Proofs.YtkpnomdmnhhaoaaDoor.Nt Go.Proofs.YtkpnomdmnhhaoaaDoor.Zv
open Go.Proofs.YtkpnomdmnhhaoaaDoor.Sr (Sl slV places)

theorem false_whole : Whole falseW (.mk 1 0 5 [] []) := by
  refine ⟨bl_no rfl, ?_, bl_no rfl⟩
  unfold WfV
  refine ⟨by decide, by decide, .inl ⟨rfl, rfl, fun j h1 h2 => ?_, .inr (.inr (.inl ⟨rfl, ?_, rfl⟩))⟩⟩
  · have : j = 0 ∨ j = 1 ∨ j = 2 ∨ j = 3 ∨ j = 4 := by omega
    rcases this with rfl | rfl | rfl | rfl | rfl <;> rfl
  · unfold wordB
    have e : falseW.extract 0 (0 + falseW.size) = falseW := ByteArray.extract_zero_size
    rw [e, strEq_iff.2 rfl]; rfl
theorem walk (s : ByteArray) (w : World) (hs : s.size ≤ 140737488351232) (_ : laidMetH Tryd.prog Rows.fnFjBoolBytesRow.laid w) :
    Calls Tryd.prog 3 #[.string s] w fun e w' => e = .returned (.bool true) ∧ RowKit.Below w.heap.size w w' := by
  refine laws_FnFjBoolBytes.calls _ ?_
  unfold laws_FnFjBoolBytes.t
  have done : ∀ (w1 : World), Kp Off w w1 → ((0 : Nat) = 0 ∧ Ending.returned (retVal [.bool true]) = .returned (.bool true) ∧ RowKit.Below w.heap.size w w1) := fun w1 h => ⟨rfl, rfl, h.belowOff⟩
  refine s_iteD (fun _ => s_leaf (done w (Kp.refl _ _))) (fun hbig => ?_)
  refine s_call (fjText_any (by omega)) ?_
  rintro e w1 ⟨nt, a, b, r, rfl, hr, k1⟩
  refine ⟨(((nt.k : Int), nt.t, a, b, ()), r, ()), rfl, ?_⟩
  refine s_alloc ?_
  have b0 := Blk.new w1 zn tN
  have k2 : Kp Off w1 (w1.alloc (.cells zn.toArray tN (0, 0))) := (Kp.refl Off w1).alloc _
  show sat _ _ _ (w1.alloc (.cells zn.toArray tN (0, 0)))
  generalize w1.alloc (.cells zn.toArray tN (0, 0)) = w2 at b0 k2
  obtain ⟨w3, h3, b3, k3⟩ := storeN b0 rfl nt.k nt.t a b
  have hz1 := k1.size
  have k03 : Kp Off w w3 := (k1.trans k2).then k3 fun q hq e => by have : q = w1.heap.size := e; omega
  refine s_effU h3 (s_ite (fun _ => s_leaf (done w3 k03)) (fun hrf => ?_))
  have hrt : r = true := by cases r with | true => rfl | false => cases hrf
  obtain ⟨hsz, hpd, p, hp, hnt, hdep, _⟩ := hr hrt
  obtain ⟨hwh1, hwh2, hwh3⟩ := Lj.places_of hp
  have hlv : lv p ≤ 300 := by
    have := lv_dep s _ p (Nat.lt_succ_self _) hwh2
    rw [← hnt] at this
    omega
  have hk : nt.k = p.k := by rw [hnt]; exact treeN_k s p
  have ht : p.k = 4 → nt.t = Ka.nmS s (p.b, p.e) := fun h4 => by rw [hnt, treeN_t, if_neg (by omega), if_pos h4]
  rw [hk] at b3
  have hk1 : (((nt.k : Nat) : Int)) = ((p.k : Nat) : Int) := by rw [hk]
  refine s_call (fjBool_any (by omega) ⟨hwh1, hwh2, hwh3⟩ hlv) ?_
  rintro e w4 ⟨⟨b1, rfl, hb1⟩, k4⟩
  refine ⟨(b1, decide (p.k = 1 ∨ p.k = 2), ()), rfl, ?_⟩
  refine s_call (fjBytes_any (by omega) ⟨hwh1, hwh2, hwh3⟩ hlv hpd) ?_
  rintro e w5 ⟨⟨x, rfl, hx⟩, k5⟩
  refine ⟨(x, decide (p.k = 4), ()), rfl, ?_⟩
  have k05 := (k03.trans k4).trans k5
  have b5 := (k4.trans k5).blk b3 id
  clear b0 b3 k2 k3 k1 k03 k4 k5 h3
  refine s_cut (fun z w' => z = (false, ()) ∧ w5 = w') ?_ ?_
  · refine s_load (p.k : Int) (by rw [addr_add, b5.cell]; rfl) (s_iteE (fun h2 => ?_) (fun h2 => ?_))
    · have h2 : p.k = 2 := by omega
      refine s_ite (fun g => ?_) (fun _ => ?_)
      · exfalso
        have g : (!(decide (p.k = 1 ∨ p.k = 2))) = true := g
        rw [decide_eq_true (.inr h2)] at g; cases g
      · refine s_load (p.k : Int) (by rw [addr_add, b5.cell]; rfl) (s_leaf ?_)
        rw [if_pos rfl]
        refine ⟨(false, ()), ?_, rfl, rfl⟩
        show [Value.bool (!(decide (p.k = 4) == ((p.k : Int) == 4)))] = [Value.bool false]
        rw [h2]; rfl
    · refine s_load (p.k : Int) (by rw [addr_add, b5.cell]; rfl) ?_
      refine s_ite (fun g => ?_) (fun _ => ?_)
      · exfalso
        have g : (!(decide (p.k = 1 ∨ p.k = 2) == ((p.k : Int) == 1))) = true := g
        by_cases h1 : p.k = 1
        · rw [h1] at g; exact absurd g (by decide)
        · have e1 : ((p.k : Int) == 1) = false := beq_eq_false_iff_ne.2 (by omega)
          rw [decide_eq_false (by omega), e1] at g
          exact absurd g (by decide)
      · refine s_load (p.k : Int) (by rw [addr_add, b5.cell]; rfl) (s_leaf ?_)
        rw [if_pos rfl]
        refine ⟨(false, ()), ?_, rfl, rfl⟩
        show [Value.bool (!(decide (p.k = 4) == ((p.k : Int) == 4)))] = [Value.bool false]
        by_cases h4 : p.k = 4
        · rw [h4]; rfl
        · have e1 : ((p.k : Int) == 4) = false := beq_eq_false_iff_ne.2 (by omega)
          rw [decide_eq_false h4, e1]; rfl
  rintro z w6 ⟨rfl, rfl⟩
  show sat _ (laws_FnFjBoolBytes.t1 _ _ _ false) _ _
  unfold laws_FnFjBoolBytes.t1
  refine sat_iteF.2 ?_
  refine s_call (fjBool_any (s := falseW) (by decide) false_whole (by decide)) ?_
  rintro e w6 ⟨⟨b2, rfl, _⟩, k6⟩
  refine ⟨(b2, true, ()), rfl, sat_iteT.2 ?_⟩
  have k06 := k05.trans k6
  have b6 := k6.blk b5 id
  have tail : ∀ {K1 K2 : T}, (p.k ≠ 4 → sat Tryd.prog K1 (fun l vs w' => l = 0 ∧ Ending.returned (retVal vs) = .returned (.bool true) ∧ RowKit.Below w.heap.size w w') w6) → (p.k = 4 → sat Tryd.prog K2 (fun l vs w' => l = 0 ∧ Ending.returned (retVal vs) = .returned (.bool true) ∧ RowKit.Below w.heap.size w w') w6) → sat Tryd.prog (.ite (!(decide (p.k = 4))) K1 K2) (fun l vs w' => l = 0 ∧ Ending.returned (retVal vs) = .returned (.bool true) ∧ RowKit.Below w.heap.size w w') w6 := fun h1 h2 => s_ite (fun g => h1 fun c => by rw [decide_eq_true c] at g; cases g) (fun g => h2 (by by_cases c : p.k = 4; exact c; rw [decide_eq_false c] at g; cases g))
  have eqs : p.k = 4 → strEq x nt.t = true := fun h4 => by rw [hx h4, ht h4]; exact strEq_iff.2 rfl
  refine s_ite (fun g => ?_) (fun g => ?_)
  · refine tail (fun _ => s_leaf (done w6 k06)) (fun h4 => s_load (s := .str) nt.t (by rw [addr_add, b6.cell]; rfl) (s_leaf ?_))
    show 0 = 0 ∧ Ending.returned (.bool (strEq x nt.t)) = _ ∧ _
    rw [eqs h4]; exact done w6 k06
  · have h12 : p.k = 1 ∨ p.k = 2 := by
      have g : (!(decide (p.k = 1 ∨ p.k = 2))) = false := g
      by_cases c : p.k = 1 ∨ p.k = 2
      · exact c
      · rw [decide_eq_false c] at g; cases g
    refine s_load (p.k : Int) (by rw [addr_add, b6.cell]; rfl) ?_
    refine s_ite (fun _ => tail (fun _ => s_leaf (done w6 k06)) (fun h4 => by omega)) (fun c => ?_)
    exfalso
    have c : (b1 == ((p.k : Int) == 2)) = false := c
    rw [hb1 h12] at c
    rcases h12 with h | h <;> (rw [h] at c; exact absurd c (by decide))
end Go.Proofs.YtkpnomdmnhhaoaaDoor.LawFjBoolBytes
