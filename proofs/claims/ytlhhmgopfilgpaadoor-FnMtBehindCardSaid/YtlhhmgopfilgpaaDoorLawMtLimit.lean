/- MatchLimit against Match. No condition beyond the statement's own guards. -/
import Derived.Test.YtlhhmgopfilgpaaDoorMm
import Derived.Test.YtlhhmgopfilgpaaDoorJk
import Derived.Test.YtlhhmgopfilgpaaDoorRows
import Derived.Lib.LaidU8
import Derived.OpenShut
namespace Go.Proofs.YtlhhmgopfilgpaaDoor.LawMtLimit
open Go Go.Proofs Go.RowKit Go.Proofs.YtlhhmgopfilgpaaDoor.Rx Go.Proofs.YtlhhmgopfilgpaaDoor.Tr Go.Proofs.YtlhhmgopfilgpaaDoor.Pl Go.Proofs.YtlhhmgopfilgpaaDoor.Ut Go.Proofs.YtlhhmgopfilgpaaDoor.Ms Go.Proofs.YtlhhmgopfilgpaaDoor.Jk

theorem kp_then {S' : Nat → Prop} {w0 w w' : World} (h : Kp Off w0 w) (k : Kp S' w w') (hs : ∀ i, i < w0.heap.size → ¬ S' i) : Kp Off w0 w' :=
  ⟨k.os.trans h.os, k.tape.trans h.tape, k.output.trans h.output, Nat.le_trans h.size k.size, fun i hi _ => (k.block i (Nat.lt_of_lt_of_le hi h.size) (hs i hi)).trans (h.block i hi id)⟩
def starW : ByteArray := ByteArray.mk #[42]
def Gives (s p : ByteArray) (w : World) (e : Ending) (w' : World) : Prop := e = .returned (.bool (if p = starW then true else M (s.size + p.size + 1) s p)) ∧ Kp Off w w'
def LPost (s p : ByteArray) (w : World) (e : Ending) (w' : World) : Prop :=
  ∃ a b : Bool, e = .returned (.tuple #[.bool a, .bool b]) ∧ Kp Off w w' ∧ (if p = starW then a = true ∧ b = false else (a = false ∧ b = true) ∨ (a = M (s.size + p.size + 1) s p ∧ b = false))
theorem one_bool (b : Bool) : ((if b then (1 : Int) else 0) == 1) = b := by cases b <;> rfl
theorem match_plain {s p : ByteArray} {w : World} (hs : s.size < 4294967296) (hp : p.size < 4294967296) (hT : Tb w) : Calls Tryd.prog 13 #[.string s, .string p] w (Gives s p w) := by
  refine impl_MtMatch.calls _ _ ?_
  unfold impl_MtMatch.t
  refine s_call (R := Gives s p w) ?_ (fun e w' h => by obtain ⟨rfl, k⟩ := h; exact ⟨_, rfl, s_leaf ⟨rfl, rfl, k⟩⟩)
  refine match_Match.calls _ _ ?_
  unfold match_Match.t
  refine s_call (R := Gives s p w) ?_ (fun e w' h => by obtain ⟨rfl, k⟩ := h; exact ⟨_, rfl, s_leaf ⟨rfl, rfl, k⟩⟩)
  refine match_match0.calls _ _ _ ?_
  unfold match_match0.t
  rw [sat_iteS]
  refine ⟨fun h => s_leaf ⟨rfl, ?_, Kp.refl _ _⟩, fun h => ?_⟩
  · have h : p = starW := h
    rw [if_pos h]; rfl
  · have h : ¬ p = starW := h
    refine s_call (match_any (s.size + p.size + 1) s p 0 (-1) none w (by omega) hs hp hT (.inl (by omega))) ?_
    rintro e w1 ⟨h1, k, _⟩
    rcases h1 with rfl | ⟨h1, _⟩
    · refine ⟨_, rfl, s_leaf ⟨rfl, ?_, k.mono fun i _ hi => ?_⟩⟩
      · rw [if_neg h, one_bool]; rfl
      · obtain ⟨hi, _⟩ := hi
        omega
    · omega
theorem match_limit {s p : ByteArray} {q : Int} {w : World} (hs : s.size < 4294967296) (hp : p.size < 4294967296) (hT : Tb w) : Calls Tryd.prog 17 #[.string s, .string p, .int .i64 q] w (LPost s p w) := by
  refine impl_MtLimit.calls _ _ _ ?_
  unfold impl_MtLimit.t
  refine s_call (R := LPost s p w) ?_ (fun e w' h => by obtain ⟨a, b, rfl, h⟩ := h; exact ⟨(a, b, ()), rfl, s_leaf ⟨rfl, a, b, rfl, h⟩⟩)
  refine match_MatchLimit.calls _ _ _ ?_
  unfold match_MatchLimit.t
  refine s_call (R := LPost s p w) ?_ (fun e w' h => by obtain ⟨a, b, rfl, h⟩ := h; exact ⟨(a, b, ()), rfl, s_leaf ⟨rfl, a, b, rfl, h⟩⟩)
  refine match_matchLimit0.calls _ _ _ _ ?_
  unfold match_matchLimit0.t
  rw [sat_iteS]
  refine ⟨fun h => s_leaf ⟨rfl, true, false, rfl, Kp.refl _ _, ?_⟩, fun h => ?_⟩
  · have h : p = starW := h
    rw [if_pos h]; exact ⟨rfl, rfl⟩
  · have h : ¬ p = starW := h
    refine s_alloc ?_
    have hb := Blk.new w [.int .i64 0] 3
    have k1 : Kp Off w (w.alloc (.cells #[.int .i64 0] 3 (0, 0))) := (Kp.refl _ w).alloc _
    have hb1 := hb.set 0 (.int .i64 0)
    have k2 : Kp Off w ((w.alloc (.cells #[.int .i64 0] 3 (0, 0))).setCell ⟨w.heap.size, 0, none⟩ (.int .i64 0)) := k1.setNew (a := ⟨w.heap.size, 0, none⟩) (Nat.le_refl _) _
    have l1 : g1 < w.heap.size := cell_lt (hT.1 0 (by decide))
    have l2 : g2 < w.heap.size := cell_lt (hT.2 0 (by decide)).1
    refine s_store (hb.cell 0) (hb.free 0) ?_
    refine s_call (match_any (s.size + p.size + 1) s p _ q (some ⟨w.heap.size, 0, none⟩) _ (by omega) hs hp (hT.off k2) (.inr ⟨w.heap.size, 0, rfl, hb1, by omega, by omega⟩)) ?_
    rintro e w1 ⟨h1, k, _⟩
    have k3 : Kp Off w w1 := kp_then k2 k fun i hi hS => by
      have := hS.2
      simp only [Option.some.injEq, Addr.mk.injEq, and_true] at this
      omega
    rcases h1 with rfl | ⟨h1, rfl⟩
    · refine ⟨_, rfl, ?_⟩
      refine s_iteE (fun h2 => ?_) (fun h2 => s_leaf ⟨rfl, _, false, rfl, k3, ?_⟩)
      · exact absurd h2 ((by decide : ∀ b : Bool, (if b then (1 : Int) else 0) ≠ 2) _)
      · rw [if_neg h]; exact .inr ⟨one_bool _, rfl⟩
    · refine ⟨(2 : Int), rfl, ?_⟩
      refine s_iteE (fun h2 => s_leaf ⟨rfl, false, true, rfl, k3, ?_⟩) (fun h2 => absurd rfl h2)
      rw [if_neg h]; exact .inl ⟨rfl, rfl⟩
theorem first_eq : Rows.laid_unicode_utf8_first = Lib.firstData := by kernel_rfl
theorem accept_eq : (Rows.laid_unicode_utf8_acceptRanges : DataW Unit) = Lib.acceptData := by kernel_rfl
theorem tabs {w : World} (hL : laidMet Tryd.prog Rows.fnMtLimitRow.laid w) : Tb w := by
  have h1 : Lib.VarReads Tryd.prog w "unicode/utf8.first" Rows.laid_unicode_utf8_first := Lib.laidMet.reads hL (.tail _ (.head _))
  have h2 : Lib.VarReads Tryd.prog w "unicode/utf8.acceptRanges" Rows.laid_unicode_utf8_acceptRanges := Lib.laidMet.reads hL (.head _)
  rw [first_eq] at h1
  rw [accept_eq] at h2
  exact utf8Tabs_of_reads (ρ := Tryd.lays260_ren) { Tryd.lays260 with } ⟨by kernel_rfl, by kernel_rfl, by kernel_rfl, by kernel_rfl, by kernel_rfl, by kernel_rfl, by kernel_rfl⟩ h1 h2
theorem walk (s p : ByteArray) (q : Int) (w : World) (hs : s.size ≤ 140737488351232) (hp : p.size ≤ 140737488351232) (_ : (Lit.int .i64 q).wf = true) (hL : laidMetH Tryd.prog Rows.fnMtLimitRow.laid w) :
    Calls Tryd.prog 7 #[.string s, .string p, .int .i64 q] w fun e w' => e = .returned (.bool true) ∧ RowKit.Below w.heap.size w w' := by
  have hT : Tb w := tabs (laid_of_H hL (by kernel_rfl))
  refine laws_FnMtLimit.calls _ _ _ ?_
  unfold laws_FnMtLimit.t
  have done : ∀ (w1 : World), Kp Off w w1 → (Ending.returned (retVal [.bool true]) = .returned (.bool true) ∧ RowKit.Below w.heap.size w w1) := fun w1 h => ⟨rfl, h.belowOff⟩
  refine s_cut (fun x w' => ∃ b, x = (b, ()) ∧ w = w') ?_ ?_
  · refine s_iteD (fun _ => s_leaf ?_) (fun _ => s_leaf ?_)
    · rw [if_pos rfl]; exact ⟨(true, ()), rfl, _, rfl, rfl⟩
    · rw [if_pos rfl]; exact ⟨(decide ((((ByteArray.size p) : Nat) : Int) > (2147483647 : Int)), ()), rfl, _, rfl, rfl⟩
  rintro x w1 ⟨b, rfl, rfl⟩
  simp only [laws_FnMtLimit.t1]
  refine s_ite (fun _ => s_leaf ⟨rfl, done w (Kp.refl _ _)⟩) (fun _ => ?_)
  refine s_cut (fun x w' => x = (decide (s.size > 4096 ∨ p.size > 4096), ()) ∧ w = w') ?_ ?_
  · refine s_iteD (fun h => s_leaf ?_) (fun h => s_leaf ?_)
    · rw [if_pos rfl]; refine ⟨(true, ()), rfl, ?_, rfl⟩
      rw [decide_eq_true (by omega)]; rfl
    · rw [if_pos rfl]; refine ⟨(decide ((((ByteArray.size p) : Nat) : Int) > (4096 : Int)), ()), rfl, bpair ?_, rfl⟩
      simp only [decide_eq_true_eq]; omega
  rintro x w1 ⟨rfl, rfl⟩
  simp only [laws_FnMtLimit.t2]
  refine s_iteD (fun _ => s_leaf ⟨rfl, done w (Kp.refl _ _)⟩) (fun hz => ?_)
  refine s_call (match_limit (q := q) (by omega) (by omega) hT) ?_
  rintro e w1 ⟨a, b, rfl, k1, h1⟩
  refine ⟨(a, b, ()), rfl, ?_⟩
  refine s_call (match_limit (s := s) (p := starW) (q := q) (by omega) (by decide) (hT.off k1)) ?_
  rintro e w2 ⟨a', b', rfl, k2, h2⟩
  refine ⟨(a', b', ()), rfl, ?_⟩
  rw [if_pos rfl] at h2
  obtain ⟨rfl, rfl⟩ := h2
  have k12 := k1.trans k2
  refine s_cut (fun x w' => x = (false, ()) ∧ w2 = w') ?_ ?_
  · refine sat_iteF.2 (s_leaf ?_)
    rw [if_pos rfl]; exact ⟨(false, ()), rfl, rfl, rfl⟩
  rintro x w2' ⟨rfl, rfl⟩
  simp only [laws_FnMtLimit.t3]
  refine sat_iteF.2 ?_
  refine s_ite (fun hb => ?_) (fun hb => ?_)
  · have hb : b = true := hb
    subst hb
    have ha : a = false := by
      split at h1
      · cases h1.2
      · rcases h1 with h1 | h1
        · exact h1.1
        · cases h1.2
    refine s_leaf ⟨rfl, ?_⟩
    rw [ha]; exact done w2 k12
  · have hb : b = false := hb
    subst hb
    refine s_call (match_plain (by omega) (by omega) (hT.off k12)) ?_
    rintro e w3 ⟨rfl, k3⟩
    refine ⟨_, rfl, s_leaf ⟨rfl, ?_⟩⟩
    have ha : a = (if p = starW then true else M (s.size + p.size + 1) s p) := by
      split at h1
      · rename_i hp; rw [if_pos hp]; exact h1.1
      · rename_i hp; rw [if_neg hp]
        rcases h1 with h1 | h1
        · cases h1.2
        · exact h1.1
    have e : (a == (if p = starW then true else M (s.size + p.size + 1) s p)) = true := by rw [ha]; exact BEq.rfl
    refine ⟨?_, (done w3 (k12.trans k3)).2⟩
    show Ending.returned (.bool (a == (if p = starW then true else M (s.size + p.size + 1) s p))) = _
    rw [e]
end Go.Proofs.YtlhhmgopfilgpaaDoor.LawMtLimit
