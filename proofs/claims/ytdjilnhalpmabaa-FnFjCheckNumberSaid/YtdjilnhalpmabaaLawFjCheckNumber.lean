/- fastjson's check of a number against RFC 8259, section 6. No condition beyond the statement's own guards. -/
import Derived.Test.YtdjilnhalpmabaaBg
import Derived.OpenShut
namespace Go.Proofs.Ytdjilnhalpmabaa.LawFjCheckNumber
open Go Go.Proofs Go.Proofs.Ytdjilnhalpmabaa.Rx Go.Proofs.Ytdjilnhalpmabaa.Tr Go.Proofs.Ytdjilnhalpmabaa.Pl Go.Proofs.Ytdjilnhalpmabaa.Fn Go.Proofs.Ytdjilnhalpmabaa.Sr

def CkPost (s : ByteArray) (w : World) (e : Ending) (w' : World) : Prop :=
  Kp Off w w' ∧ ∃ t : ByteArray, e = .returned (.tuple #[.string t, .bool (vnE s 0).isSome]) ∧ ∀ m, vnE s 0 = some m → t = sfx s m
theorem check_any {s : ByteArray} {w : World} (hs : s.size < 4294967295) : Calls Try.prog 20 #[.string s] w (CkPost s w) := by
  refine impl_FjCheckNumber.calls _ ?_
  unfold impl_FjCheckNumber.t
  refine s_call (R := VPost s (vnE s 0) w) ?_ ?_
  · refine fastjson_DoorCheckNumber.calls _ ?_
    unfold fastjson_DoorCheckNumber.t
    refine s_call (validateNumber_any (by omega)) ?_
    rintro e w' ⟨k, t, v, rfl, h⟩
    exact ⟨(t, v, ()), rfl, s_leaf ⟨rfl, k, t, v, rfl, h⟩⟩
  · rintro e w' ⟨k, t, v, rfl, h1, h2, h3⟩
    refine ⟨(t, v, ()), rfl, ?_⟩
    refine s_chk h1 ?_
    simp only [h2]
    cases hv : vnE s 0 with
    | none =>
      refine sat_iteT.2 (s_leaf ⟨rfl, k, _, by rw [hv]; rfl, fun m hm => by rw [hv] at hm; cases hm⟩)
    | some m =>
      refine sat_iteF.2 (s_leaf ⟨rfl, k, t, by rw [hv]; rfl, h3⟩)
theorem vn_num {s : ByteArray} {m : Nat} (h : vnE s 0 = some m) : numE s 0 = some m ∧ numOk (bt s (0 : Nat)) = true := by
  have main : ∀ a : Nat, vnD s a = some m → intE s a = some m ∧ isDig (bt s (a : Int)) = true := by
    intro a h
    unfold vnD at h
    split at h
    · cases h
    · have hD : isDig (bt s (a : Int)) = true := by
        cases hD : isDig (bt s (a : Int)) with
        | true => rfl
        | false => exact absurd (digs_no hD) ‹_›
      split at h
      · cases h
      · rename_i hn
        refine ⟨?_, hD⟩
        by_cases hz : bt s (a : Int) = 48
        · have hd : digs s a = a + 1 := Classical.byContradiction fun hd => hn ⟨hz, hd⟩
          rw [intE_zero hz, ← hd]; exact h
        · rw [intE_dig hz hD]; exact h
  unfold vnE at h
  split at h
  · rename_i h45
    rw [numE_minus h45]
    exact ⟨(main 1 h).1, by rw [h45]; rfl⟩
  · rename_i h45
    rw [numE_plain h45]
    obtain ⟨a, b⟩ := main 0 h
    exact ⟨a, by unfold numOk; rw [b]; exact Bool.or_true _⟩
theorem one_ok : (vnE (ByteArray.mk #[(49 : UInt8)]) 0).isSome = true := by
  have h0 : bt (ByteArray.mk #[(49 : UInt8)]) (0 : Nat) = 49 := rfl
  have hs : (ByteArray.mk #[(49 : UInt8)]).size = 1 := rfl
  have hd : digs (ByteArray.mk #[(49 : UInt8)]) 0 = 1 := by rw [digs_yes (by rw [h0]; rfl), digs_end (by rw [hs]; decide)]
  rw [vnE, if_neg (by rw [h0]; decide), vnD, hd, if_neg (by decide), if_neg (by rw [h0]; decide), fracE_end (by rw [hs]; decide)]
  rfl
theorem walk (s : ByteArray) (w : World) (hsz : s.size ≤ 140737488351232) :
    Calls Try.prog 8 #[.string s] w fun e w' => e = .returned (.bool true) ∧ RowKit.Below w.heap.size w w' := by
  refine laws_FnFjCheckNumber.calls _ ?_
  unfold laws_FnFjCheckNumber.t
  have done : ∀ (w1 : World), Kp Off w w1 → (Ending.returned (retVal [.bool true]) = .returned (.bool true) ∧ RowKit.Below w.heap.size w w1) := fun w1 h => ⟨rfl, h.belowOff⟩
  refine s_iteD (fun _ => s_leaf ⟨rfl, done w (Kp.refl _ _)⟩) (fun hbig => ?_)
  refine s_cut (fun x w' => w = w' ∧ (x = (true, ()) ∨ x = (false, ()))) ?_ ?_
  · refine s_ite (fun h => s_leaf ?_) (fun h => s_leaf ?_)
    · rw [if_pos rfl]; exact ⟨(true, ()), rfl, rfl, .inl rfl⟩
    · rw [if_pos rfl]
      cases hd : decide ((s.size : Int) > 4000) with
      | true => exact ⟨(true, ()), rfl, rfl, .inl rfl⟩
      | false => exact ⟨(false, ()), rfl, rfl, .inr rfl⟩
  rintro x w' ⟨rfl, rfl | rfl⟩
  · simp only [laws_FnFjCheckNumber.t1]
    exact sat_iteT.2 (s_leaf ⟨rfl, done w (Kp.refl _ _)⟩)
  simp only [laws_FnFjCheckNumber.t1]
  refine sat_iteF.2 ?_
  have hs : s.size < 4294967295 := by omega
  refine s_call (begins_any hs) ?_
  rintro e w1 ⟨k, b, e1, na, ka, rfl, k1, hp⟩
  refine ⟨((k, b, e1, na, ka, ()), (begins s).isSome, ()), rfl, ?_⟩
  refine s_alloc ?_
  obtain ⟨w2, h2, hc2, k2⟩ := storeP (Blk.new w1 zp tP) rfl k b e1 na ka
  refine s_effU h2 ?_
  have kc : Kp Off w1 w2 := (((Kp.refl (fun q => q = w1.heap.size) w1).alloc _).trans (k2.mono fun q _ h => h)).mono fun q hq h => by omega
  have k02 := k1.trans kc
  have facts : (vnE s 0 = none → begins s = none ∨ k ≠ 3) ∧ (∀ m, vnE s 0 = some m → (begins s).isSome = true ∧ k = 3 ∧ e1 = (m : Int) ∧ m ≤ s.size) := by
    constructor
    · intro hn
      cases hb : begins s with
      | none => exact .inl rfl
      | some p =>
        right
        intro hk
        obtain ⟨h1, _, _⟩ := (hp p hb).inv
        unfold begins at hb
        cases hv : val s 0 with
        | none => rw [hv] at hb; cases hb
        | some q =>
          rw [hv] at hb
          simp only [Option.bind_some] at hb
          split at hb
          · cases hb
          · rename_i hh
            cases hb
            exact hh ⟨by omega, hn⟩
    · intro m hm
      obtain ⟨h1, h2⟩ := vn_num hm
      have hv : val s 0 = some (.mk 3 0 m [] []) := by rw [val_num h2, h1]; rfl
      have hb : begins s = some (.mk 3 0 m [] []) := by rw [begins, hv]; exact if_neg fun c => by rw [hm] at c; cases c.2
      obtain ⟨a, _, c⟩ := (hp _ hb).inv
      exact ⟨by rw [hb]; rfl, a, c, (numE_le (Nat.zero_le _) h1).2⟩
  refine s_cut (fun x w' => x = ((vnE s 0).isSome, ()) ∧ w2 = w') ?_ ?_
  · refine s_ite (fun h => ?_) (fun h => s_leaf ?_)
    · simp only [addr_add, Nat.zero_add]
      refine s_load k (hc2.cell 0) (s_leaf ?_)
      rw [if_pos rfl]
      refine ⟨(_, ()), rfl, bpair ?_, rfl⟩
      rw [beq_iff_eq]
      constructor
      · intro hk
        cases hv : vnE s 0 with
        | none =>
          rcases facts.1 hv with h' | h'
          · rw [h'] at h; cases h
          · exact absurd hk h'
        | some m => rfl
      · intro hv
        cases hv' : vnE s 0 with
        | none => rw [hv'] at hv; cases hv
        | some m => exact (facts.2 m hv').2.1
    · rw [if_pos rfl]
      refine ⟨(false, ()), rfl, bpair ?_, rfl⟩
      cases hv : vnE s 0 with
      | none => simp
      | some m => have := (facts.2 m hv).1; rw [this] at h; cases h
  rintro x w' ⟨rfl, rfl⟩
  simp only [laws_FnFjCheckNumber.t2]
  refine s_call (check_any hs) ?_
  rintro e w3 ⟨k3, t, rfl, ht⟩
  refine ⟨(t, (vnE s 0).isSome, ()), rfl, ?_⟩
  refine s_call (check_any (s := ByteArray.mk #[(49 : UInt8)]) (by decide)) ?_
  rintro e w4 ⟨k4, t', rfl, _⟩
  refine ⟨(t', (vnE (ByteArray.mk #[(49 : UInt8)]) 0).isSome, ()), rfl, ?_⟩
  rw [one_ok]
  refine sat_iteT.2 ?_
  have k24 := k3.trans k4
  have fin := done w4 (k02.trans k24)
  cases hv : vnE s 0 with
  | none =>
    simp only [Option.isSome_none, BEq.rfl]
    exact sat_iteT.2 (sat_iteT.2 (s_leaf ⟨rfl, fin⟩))
  | some m =>
    simp only [Option.isSome_some, BEq.rfl]
    refine sat_iteT.2 (sat_iteF.2 ?_)
    obtain ⟨_, _, he, hm⟩ := facts.2 m hv
    subst he
    simp only [addr_add, Nat.zero_add]
    have hc4 := k24.blk hc2 (id : ¬ Off w1.heap.size)
    refine s_load (m : Int) (hc4.cell 2) (s_chk (by omega) (s_leaf ?_))
    have hst : strEq t (ByteArray.extract s (Int.toNat (m : Int)) (Int.toNat (s.size : Int))) = true := by
      rw [strEq_iff, Int.toNat_natCast, Int.toNat_natCast]
      exact ht m hv
    rw [hst]
    exact ⟨rfl, fin⟩
end Go.Proofs.Ytdjilnhalpmabaa.LawFjCheckNumber
