/- The law FnGjUnescapeAny: its walk. No condition beyond the statement's own guards. -/
import Derived.Test.YtbmmpnjpejamaaaDoorBw
import Derived.Test.YtbmmpnjpejamaaaDoorTr
import Derived.Test.YtbmmpnjpejamaaaDoorRows
import Derived.Laws.MakeOwn
import Derived.OpenShut
namespace Go.Proofs.YtbmmpnjpejamaaaDoor.LawGjUnescapeAny
open Go Go.Proofs Go.RowKit Go.Proofs.YtbmmpnjpejamaaaDoor.Rx Go.Proofs.YtbmmpnjpejamaaaDoor.Tr Go.Proofs.YtbmmpnjpejamaaaDoor.Pl Go.Proofs.YtbmmpnjpejamaaaDoor.Bw
open Go.Proofs.YtbmmpnjpejamaaaDoor.Sr (slV tBs tB)

theorem kp_then {S' : Nat → Prop} {w0 w w' : World} (h : Kp Off w0 w) (k : Kp S' w w') (hs : ∀ i, i < w0.heap.size → ¬ S' i) : Kp Off w0 w' :=
  ⟨k.os.trans h.os, k.tape.trans h.tape, k.output.trans h.output, Nat.le_trans h.size k.size, fun i hi _ => (k.block i (Nat.lt_of_lt_of_le hi h.size) (hs i hi)).trans (h.block i hi id)⟩
/-- No byte of the text is a control character or a backslash. -/
def Plain (s : ByteArray) : Prop := ∀ i : Nat, i < s.size → 32 ≤ bt s (i : Int) ∧ bt s (i : Int) ≠ 92
theorem take_on {s : ByteArray} {i : Nat} (h : i < s.size) : s.data.toList.take (i + 1) = s.data.toList.take i ++ [gb s i] := by
  have hl : i < s.data.toList.length := by rw [Array.length_toList]; exact h
  rw [List.take_add_one]
  unfold gb
  rw [List.getD_eq_getElem?_getD, List.getElem?_eq_getElem hl]; rfl
theorem unescape_plain {s : ByteArray} {w : World} (hs : s.size ≤ 4096) (hp : Plain s) : Calls Tryd.prog 53 #[.string s] w fun e w' => e = .returned (.string s) ∧ Kp Off w w' := by
  refine gjson_unescape.calls _ ?_
  unfold gjson_unescape.t
  obtain ⟨w1, h1, h2, h3⟩ := run_make_own (P := Tryd.prog) w w.heap.size tBs tB _ (.int .u8 0) 1 Tryd.underlying48 (info_some (by kernel_rfl)) (by kernel_rfl) (by kernel_rfl) .i64 .i64 s.size (by
    rw [show ((Tryd.prog.info? tB).get (by kernel_rfl)).bytes = 1 from by kernel_rfl]; omega) (by simp only [maxLen]; omega) (Nat.le_refl _)
  refine s_eff (some ⟨w.heap.size, 0, none⟩, 0, s.size) h1 ?_
  have hB0 : BR w1 w.heap.size (some ⟨w.heap.size, 0, none⟩, 0, s.size) [] := h2
  have k0 : Kp Off w w1 := (Kp.of_grown h3).mono fun k _ h => by simp at h
  have hl : s.data.toList.length = s.size := Array.length_toList
  refine s_loop (fun n x w' => ∃ (i : Nat) (z : Sr.Sl), n = s.size - i ∧ x = (z, (i : Int), ()) ∧ i ≤ s.size ∧ BR w' w.heap.size z (s.data.toList.take i) ∧ Kp Off w w') s.size ((some ⟨w.heap.size, 0, none⟩, 0, s.size), (0 : Int), ()) rfl ⟨0, _, rfl, rfl, Nat.zero_le _, hB0, k0⟩ ?_
  rintro n x w2 ⟨i, z, rfl, rfl, hi, hB, k2⟩
  simp only [gjson_unescape.t1]
  refine s_iteD (fun h => ?_) (fun h => ?_)
  rotate_left
  · have e : i = s.size := by omega
    subst e
    have ht : s.data.toList.take s.size = s.data.toList := List.take_of_length_le (by omega)
    rw [ht] at hB
    have hr := hB.toStr
    have es : (⟨s.data.toList.toArray⟩ : ByteArray) = s := by rw [Array.toArray_toList]
    rw [es] at hr
    refine s_eff s hr (s_leaf ?_)
    rw [if_neg (by decide)]
    exact ⟨rfl, rfl, k2⟩
  have hlt : i < s.size := by omega
  obtain ⟨p1, p2⟩ := hp i hlt
  refine s_chk (by omega) ?_
  refine s_iteD (fun hh => by omega) (fun _ => s_chk (by omega) ?_)
  refine s_iteE (fun hh => absurd hh p2) (fun _ => s_chk (by omega) ?_)
  rw [bt_bv]
  refine s_put hB [gb s i] k2.size (by rw [List.length_take]; simp only [List.length_cons, List.length_nil]; omega) rfl rfl rfl (by simp) (by simp) fun z2 w3 hB2 k3 _ => s_leaf ?_
  rw [if_pos rfl, wrap_in (by omega) (by omega)]
  refine ⟨s.size - (i + 1), (z2, ((i + 1 : Nat) : Int), ()), rfl, by omega, i + 1, z2, rfl, rfl, hlt, by rw [take_on hlt]; exact hB2, kp_then k2 k3 fun j hj ho => by have := (hB.block j ho).1; omega⟩
theorem walk (s : ByteArray) (w : World) (hs : s.size ≤ 140737488351232) (_ : laidMetH Tryd.prog Rows.fnGjUnescapeAnyRow.laid w) :
    Calls Tryd.prog 4 #[.string s] w fun e w' => e = .returned (.bool true) ∧ RowKit.Below w.heap.size w w' := by
  refine laws_FnGjUnescapeAny.calls _ ?_
  unfold laws_FnGjUnescapeAny.t
  have done : ∀ (w1 : World), Kp Off w w1 → (Ending.returned (retVal [.bool true]) = .returned (.bool true) ∧ RowKit.Below w.heap.size w w1) := fun w1 h => ⟨rfl, h.belowOff⟩
  refine s_iteD (fun _ => s_leaf ⟨rfl, done w (Kp.refl _ _)⟩) (fun _ => ?_)
  refine s_loop (fun n x w' => ∃ i : Nat, n = s.size - i ∧ x = ((i : Int), ()) ∧ i ≤ s.size ∧ (∀ j : Nat, j < i → 32 ≤ bt s (j : Int) ∧ bt s (j : Int) ≠ 92) ∧ w = w') s.size ((0 : Int), ()) rfl ⟨0, rfl, rfl, Nat.zero_le _, fun j hj => by omega, rfl⟩ ?_
  rintro n x w1 ⟨i, rfl, rfl, hi, hp, rfl⟩
  simp only [laws_FnGjUnescapeAny.t1]
  refine s_iteD (fun h => s_chk (by omega) ?_) (fun h => ?_)
  · refine s_iteD (fun _ => s_leaf ?_) (fun h32 => s_chk (by omega) ?_)
    · rw [if_neg (by decide)]; exact ⟨rfl, done w (Kp.refl _ _)⟩
    refine s_iteE (fun _ => s_leaf ?_) (fun h92 => s_leaf ?_)
    · rw [if_neg (by decide)]; exact ⟨rfl, done w (Kp.refl _ _)⟩
    rw [if_pos rfl, wrap_in (by omega) (by omega)]
    refine ⟨s.size - (i + 1), (((i + 1 : Nat) : Int), ()), rfl, by omega, i + 1, rfl, rfl, by omega, fun j hj => ?_, rfl⟩
    rcases Nat.lt_or_ge j i with g | g
    · exact hp j g
    · have : j = i := by omega
      subst this
      exact ⟨by omega, h92⟩
  · have e : i = s.size := by omega
    subst e
    refine s_iteD (fun _ => s_leaf ?_) (fun hz => ?_)
    · rw [if_neg (by decide)]; exact ⟨rfl, done w (Kp.refl _ _)⟩
    refine s_call (R := fun e w' => e = .returned (.string s) ∧ Kp Off w w') ?_ ?_
    · refine impl_GjUnescape.calls _ ?_
      unfold impl_GjUnescape.t
      refine s_call (R := fun e w' => e = .returned (.string s) ∧ Kp Off w w') ?_ (by rintro e w1 ⟨rfl, k⟩; exact ⟨s, rfl, s_leaf ⟨rfl, rfl, k⟩⟩)
      refine gjson_DoorUnescape.calls _ ?_
      unfold gjson_DoorUnescape.t
      exact s_call (unescape_plain (by omega) hp) (by rintro e w1 ⟨rfl, k⟩; exact ⟨s, rfl, s_leaf ⟨rfl, rfl, k⟩⟩)
    rintro e w1 ⟨rfl, k1⟩
    refine ⟨s, rfl, s_leaf ?_⟩
    rw [if_neg (by decide), strEq_iff.2 rfl]
    exact ⟨rfl, done w1 k1⟩
end Go.Proofs.YtbmmpnjpejamaaaDoor.LawGjUnescapeAny
