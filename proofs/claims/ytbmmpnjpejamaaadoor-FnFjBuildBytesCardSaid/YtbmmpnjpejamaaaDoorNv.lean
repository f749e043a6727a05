/- fastjson: a new value of an empty arena; a number made of a text. No statement of the set is proved here. -/
import Derived.Test.YtbmmpnjpejamaaaDoorAp
import Derived.Test.YtbmmpnjpejamaaaDoorPm
import Derived.Test.YtbmmpnjpejamaaaDoorNp
namespace Go.Proofs.YtbmmpnjpejamaaaDoor.Nu
open Go Go.Proofs Go.RowKit Go.Proofs.YtbmmpnjpejamaaaDoor.Rx Go.Proofs.YtbmmpnjpejamaaaDoor.Tr Go.Proofs.YtbmmpnjpejamaaaDoor.Pl Go.Proofs.YtbmmpnjpejamaaaDoor.Ui

abbrev tVal : TypeId := 91
abbrev tVs : TypeId := 49
abbrev tAr : TypeId := 53
/-- A new value's cells. -/
def vz : List Value := [.slice none 0 0, .bool false, .slice none 0 0, .string (ByteArray.mk #[]), .int .i64 0]
theorem getValue_any {w : World} {g : Nat} {b : Value} (h : Blk w g [b, .slice none 0 0] tAr) :
    Calls Tryd.prog 48 #[.pointer (some ⟨g, 1, none⟩)] w fun e w' =>
      ∃ (v : Nat) (cur : List Value) (u : Value), e = .returned (.pointer (some ⟨v, 0, none⟩)) ∧ w.heap.size ≤ v ∧ Blk w' v cur tVal ∧ cur.take 5 = vz ∧ Blk w' g [b, u] tAr ∧ Kp (On g) w w' := by
  refine fastjson_cache_getValue.calls _ ?_
  unfold fastjson_cache_getValue.t
  have hg : g < w.heap.size := h.lt
  have hd := h.drew
  refine s_drew (s_ptr ?_)
  simp only [addr_add, Nat.add_zero]
  refine s_load (none, 0, 0) (hd.cell 1) (s_ptr ?_)
  simp only [addr_add, Nat.add_zero]
  refine s_load (none, 0, 0) (hd.cell 1) ?_
  refine s_iteD (fun hh => absurd hh (by decide)) (fun _ => s_ptr ?_)
  simp only [addr_add, Nat.add_zero]
  refine s_load (none, 0, 0) (hd.cell 1) ?_
  obtain ⟨w1, h1, a, c, w2, h2, h3, h4, h5⟩ := push_run (P := Tryd.prog) (w := w.drew) (base := w.drew.heap.size) (t := tVs) (e := tVal) (z0 := .agg vz.toArray) (size := 5) Tryd.underlying49 (info_some (by kernel_rfl)) (by kernel_rfl) (by kernel_rfl)
    (of_decide_eq_true (by kernel_rfl)) rfl (by decide) (by decide) (World.ownsRow_nil w.drew w.drew.heap.size tVal 5) (.agg vz.toArray) vz rfl rfl (fun u hu => by
      simp only [vz, List.mem_cons, List.not_mem_nil, or_false] at hu
      rcases hu with rfl | rfl | rfl | rfl | rfl <;> rfl) (by decide) (Nat.le_refl _)
  refine s_eff (some ⟨w.drew.heap.size, 0, none⟩, 1, 1) h1 (s_eff (a, 0 + 1, c) h2 (s_ptr ?_))
  obtain ⟨_, ⟨_, h7⟩ | ⟨v, cap, cur, he, hb, hv, hnc, hm, hs, htk⟩⟩ := h3
  · omega
  have he' := he
  simp only [Value.slice.injEq] at he'
  obtain ⟨rfl, _, rfl⟩ := he'
  have hbv : w.heap.size ≤ v := hb
  have k2 : Kp Off w w2 := ((Kp.refl Off w).drew).trans (h4.mono fun k _ hk => by simp [Value.ownBlock] at hk)
  have hg2 := k2.blk h id
  have hv2 : Blk w2 v cur.toList tVal := by
    show w2.heap[v]? = some (.cells cur.toList.toArray tVal (0, 0))
    rw [Array.toArray_toList]; exact hv
  simp only [addr_add, Nat.add_zero]
  refine s_store (hg2.cell 1) (hg2.free 1) (s_drew (s_ptr ?_))
  have hg3 := (hg2.set 1 (.slice (some ⟨v, 0, none⟩) (0 + 1) c)).drew
  simp only [addr_add, Nat.add_zero]
  refine s_load (some ⟨v, 0, none⟩, 0 + 1, c) (hg3.cell 1) (s_ptr ?_)
  simp only [addr_add, Nat.add_zero]
  refine s_load (some ⟨v, 0, none⟩, 0 + 1, c) (hg3.cell 1) ?_
  have hw : IntKind.wrap IntKind.i64 ((((0 + 1 : Nat) : Nat) : Int) - (1 : Int)) = 0 := by rw [wrap_in (by omega) (by omega)]; omega
  simp only [hw]
  refine s_chk (by decide) (s_ptr (s_leaf ⟨rfl, v, cur.toList, _, ?_, hbv, ?_, htk, hg3, ?_⟩))
  · show Ending.returned (retVal [.pointer (some ((⟨v, 0, none⟩ : Addr).add (Int.toNat 0 * 5)))]) = _
    rw [addr_add]; rfl
  · exact (hv2.setOther (a := ⟨g, 1, none⟩) (fun e => by have e : g = v := e; omega) _).drew
  · exact ((k2.mono fun _ _ c => c.elim).on 1 _).drew
end Go.Proofs.YtbmmpnjpejamaaaDoor.Nu
