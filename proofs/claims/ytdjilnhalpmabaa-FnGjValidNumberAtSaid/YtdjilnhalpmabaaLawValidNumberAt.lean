/- Behind every digit and minus sign of a text of at most 2^16 bytes, gjson's check of a number that begins there finds one just where RFC 8259, section 6, has one, and ends where that ends. No condition beyond the statement's own guards. -/
import Derived.Test.YtdjilnhalpmabaaVn
import Derived.OpenShut
namespace Go.Proofs.Ytdjilnhalpmabaa.LawValidNumberAt
open Go Go.Proofs Go.Proofs.Ytdjilnhalpmabaa.Rx Go.Proofs.Ytdjilnhalpmabaa.Tr Go.Proofs.Ytdjilnhalpmabaa.Pl Go.Proofs.Ytdjilnhalpmabaa.Sr Go.Proofs.Ytdjilnhalpmabaa.Vn

/-- What both the reference and the package say of a place. -/
def AtPost (r : Option Nat) (w : World) (e : Ending) (w' : World) : Prop :=
  ∃ e1 : Int, e = .returned (.tuple #[.int .i64 e1, .bool r.isSome]) ∧ (∀ m, r = some m → e1 = m) ∧ Kp Off w w'

theorem numberAt_any {s : ByteArray} {i : Nat} {w : World} (hs : s.size < 4611686018427387904) (hi : i ≤ s.size) :
    Calls Try.prog 17 #[.string s, .int .i64 (i : Int)] w (AtPost (numE s i) w) := by
  refine spec_NumberAt.calls _ _ ?_
  simp [spec_NumberAt.t]
  have hb := Blk.new w [.string (ByteArray.mk #[]), .int .i64 0] 58
  obtain ⟨w1, h1, h2, h3⟩ := storeAt_run (P := Try.prog) (t := 58) [.string s, .int .i64 (i : Int)] hb (info_some (by kernel_rfl)) (by kernel_rfl) rfl rfl
  refine s_effU h1 ?_
  refine s_call (number_any hs hi (show RdAt w1 w.heap.size s i from h2)) ?_
  rintro e w2 ⟨j, rfl, hj, _, hR, k2⟩
  refine ⟨_, rfl, ?_⟩
  have c1 := hR.cell 1
  simp [c1]
  refine ⟨j, rfl, fun m hm => by rw [hj m hm], ?_⟩
  have k1 : Kp (On w.heap.size) w w1 := ((Kp.refl _ w).alloc _).trans h3
  exact (k1.trans k2).mono fun k hk hS => by
    have : k = w.heap.size := hS
    omega

theorem gjAt_any {s : ByteArray} {i : Nat} {w : World} (hs : s.size < 4611686018427387904) (hi : i < s.size) (hd : bt s i = 45 ∨ isDig (bt s i) = true) :
    Calls Try.prog 18 #[.string s, .int .i64 ((i : Int) + 1)] w (AtPost (numE s i) w) := by
  refine impl_GjValidNumberAt.calls _ _ ?_
  unfold impl_GjValidNumberAt.t
  refine s_call (R := AtPost (numE s i) w) ?_ ?_
  · refine gjson_DoorValidNumber.calls _ _ ?_
    unfold gjson_DoorValidNumber.t
    obtain ⟨c, w1, h1, h2, h3⟩ := convert_bytes (P := Try.prog) (w := w) s Try.underlying9 Try.underlying55 Try.underlying5
    refine s_eff (some ⟨w.heap.size, 0, none⟩, s.size, c) h1 ?_
    refine s_call (vn_any hs hi h2 hd) ?_
    rintro e w2 ⟨e1, rfl, he, rfl⟩
    refine ⟨(e1, (numE s i).isSome, ()), rfl, ?_⟩
    exact ⟨rfl, e1, rfl, he, h3⟩
  · rintro e w2 ⟨e1, rfl, he, hk⟩
    refine ⟨(e1, (numE s i).isSome, ()), rfl, ?_⟩
    exact ⟨rfl, e1, rfl, he, hk⟩

theorem walk (s : ByteArray) (a : Int) (w : World) (hs : s.size ≤ 140737488351232) (ha : (Lit.int .i64 a).wf = true) :
    Calls Try.prog 7 #[.string s, .int .i64 a] w fun e w' => e = .returned (.bool true) ∧ RowKit.Below w.heap.size w w' := by
  obtain ⟨b1, b2⟩ := bounds_i64 ha
  refine laws_FnGjValidNumberAt.calls _ _ ?_
  unfold laws_FnGjValidNumberAt.t
  have done : ∀ (w1 : World), Kp Off w w1 → (Ending.returned (retVal [.bool true]) = .returned (.bool true) ∧ RowKit.Below w.heap.size w w1) := fun w1 h => ⟨rfl, h.belowOff⟩
  refine s_iteD (fun _ => s_leaf ⟨rfl, done w (Kp.refl _ _)⟩) (fun _ => ?_)
  refine s_cut (fun x w' => w = w' ∧ (x = (true, ()) ∨ ∃ i : Nat, x = (false, ()) ∧ a = (i : Int) + 1 ∧ i < s.size ∧ (bt s i = 45 ∨ isDig (bt s i) = true))) ?_ ?_
  · have yes : ∀ Q : Nat → List Value → World → Prop, (∃ x, [Value.bool true] = (Sh.cons .bool .nil).vals x ∧ w = w ∧ (x = (true, ()) ∨ ∃ i : Nat, x = (false, ()) ∧ a = (i : Int) + 1 ∧ i < s.size ∧ (bt s i = 45 ∨ isDig (bt s i) = true))) :=
      fun _ => ⟨(true, ()), rfl, rfl, .inl rfl⟩
    refine s_iteD (fun _ => ?_) (fun _ => ?_)
    · refine s_leaf ?_; rw [if_pos rfl]; exact yes (fun _ _ _ => True)
    refine s_iteD (fun _ => ?_) (fun h1 => ?_)
    · refine s_leaf ?_; rw [if_pos rfl]; exact yes (fun _ _ _ => True)
    refine s_iteD (fun _ => ?_) (fun h2 => ?_)
    · refine s_leaf ?_; rw [if_pos rfl]; exact yes (fun _ _ _ => True)
    obtain ⟨i, rfl⟩ : ∃ i : Nat, a = (i : Int) + 1 := ⟨(a - 1).toNat, by omega⟩
    have hi : i < s.size := by omega
    have e0 : IntKind.wrap .i64 ((i : Int) + 1 - 1) = i := by rw [wrap_in (by omega) (by omega)]; omega
    rw [e0]
    have no : ∀ (b : Bool), (b = true ∨ bt s i = 45 ∨ isDig (bt s i) = true) → (∃ x, [Value.bool b] = (Sh.cons .bool .nil).vals x ∧ w = w ∧ (x = (true, ()) ∨ ∃ j : Nat, x = (false, ()) ∧ (i : Int) + 1 = (j : Int) + 1 ∧ j < s.size ∧ (bt s j = 45 ∨ isDig (bt s j) = true))) := by
      intro b hb
      refine ⟨(b, ()), rfl, rfl, ?_⟩
      cases b
      · exact .inr ⟨i, rfl, rfl, hi, hb.resolve_left (by decide)⟩
      · exact .inl rfl
    have hr : (0 : Int) ≤ (i : Int) ∧ (i : Int) < (s.size : Int) := by omega
    refine s_chk hr ?_
    refine s_iteN (fun h3 => ?_) (fun h3 => ?_)
    · refine s_chk hr ?_
      refine s_iteD (fun h4 => ?_) (fun h4 => ?_)
      · refine s_leaf ?_; rw [if_pos rfl]; exact no true (.inl rfl)
      · refine s_chk hr (s_leaf ?_)
        rw [if_pos rfl]
        refine no _ ?_
        by_cases h5 : bt s i > 57
        · exact .inl (decide_eq_true h5)
        · exact .inr (.inr (isDig_yes (by omega)))
    · refine s_leaf ?_; rw [if_pos rfl]; exact no false (.inr (.inl h3))
  · rintro x w1 ⟨rfl, rfl | ⟨i, rfl, rfl, hi, hd⟩⟩
    · simp [laws_FnGjValidNumberAt.t1]
      exact ⟨rfl, (done w (Kp.refl _ _)).2⟩
    · simp only [laws_FnGjValidNumberAt.t1, sat_iteF]
      have e0 : IntKind.wrap .i64 ((i : Int) + 1 - 1) = i := by rw [wrap_in (by omega) (by omega)]; omega
      rw [e0]
      refine s_call (numberAt_any (by omega) (by omega)) ?_
      rintro e w2 ⟨e1, rfl, h1, k1⟩
      refine ⟨(e1, (numE s i).isSome, ()), rfl, ?_⟩
      refine s_call (gjAt_any (by omega) hi hd) ?_
      rintro e w3 ⟨e2, rfl, h2, k2⟩
      refine ⟨(e2, (numE s i).isSome, ()), rfl, ?_⟩
      have k3 := k1.trans k2
      cases hn : numE s i with
      | none =>
        simp [sat]
        exact ⟨rfl, (done w3 k3).2⟩
      | some m =>
        simp [sat]
        have : e2 = e1 := by rw [h1 m hn, h2 m hn]
        subst this
        simp
        exact ⟨rfl, (done w3 k3).2⟩
end Go.Proofs.Ytdjilnhalpmabaa.LawValidNumberAt
