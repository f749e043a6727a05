/- The law's jpKind, the reference's Raw (lines of XLy of this repo). No statement of the set is proved here. -/
import Derived.Test.YtlfebfkphgelfaaDoorMI
import Derived.Test.YtlfebfkphgelfaaDoorTa
namespace Go.Proofs.YtlfebfkphgelfaaDoor.Lj
open Go Go.Proofs Go.RowKit Go.Proofs.YtlfebfkphgelfaaDoor.Rx Go.Proofs.YtlfebfkphgelfaaDoor.Tr Go.Proofs.YtlfebfkphgelfaaDoor.Pl Go.Proofs.YtlfebfkphgelfaaDoor.Pw
open Go.Proofs.YtlfebfkphgelfaaDoor.Sr (tP pc)
variable {s : ByteArray} {w w' : World}
/-- A place's text. -/
theorem raw_any {p : PT} {na ka : Sr.Sl} (hs : s.size ≤ 8000000000) (hw : WfV s p) : Calls Tryd.prog 26 #[.string s, .agg (pc p.k p.b p.e na ka).toArray] w fun e w' => e = .returned (.string (s.extract (Ka.rb p) (Ka.re p))) ∧ Kp Off w w' := by
  have hlt := hw.lt
  refine spec_Raw.calls _ _ _ _ _ _ _ _ _ _ ?_
  unfold spec_Raw.t
  refine s_alloc ?_
  have b0 := Blk.new w (pc p.k p.b p.e na ka) tP
  have k0 : Kp Off w (w.alloc (.cells (pc p.k p.b p.e na ka).toArray tP (0, 0))) := (Kp.refl Off w).alloc _
  show sat _ _ _ (w.alloc (.cells (pc p.k p.b p.e na ka).toArray tP (0, 0)))
  generalize w.alloc (.cells (pc p.k p.b p.e na ka).toArray tP (0, 0)) = w1 at k0 b0
  have c1 : w1.cell? (Addr.add ⟨w.heap.size, 0, none⟩ 1) = some (.int .i64 (p.b : Int)) := by rw [addr_add, Nat.zero_add, b0.cell]; rfl
  have c2 : w1.cell? (Addr.add ⟨w.heap.size, 0, none⟩ 2) = some (.int .i64 (p.e : Int)) := by rw [addr_add, Nat.zero_add, b0.cell]; rfl
  refine s_load (p.k : Int) (b0.cell 0) (s_iteE (fun hk => ?_) (fun hk => ?_))
  · have hk4 : p.k = 4 := by omega
    have h2 := Ka.str_len hw hk4
    have w1' : IntKind.wrap IntKind.i64 ((p.b : Int) + 1) = ((p.b + 1 : Nat) : Int) := by rw [wrap_in (by omega) (by omega)]; omega
    have w2' : IntKind.wrap IntKind.i64 ((p.e : Int) - 1) = ((p.e - 1 : Nat) : Int) := by rw [wrap_in (by omega) (by omega)]; omega
    refine s_load (p.b : Int) c1 (s_load (p.e : Int) c2 ?_)
    rw [w1', w2']
    refine s_chk ⟨by omega, by omega, by omega⟩ (s_leaf ⟨rfl, ?_, k0⟩)
    rw [Int.toNat_natCast, Int.toNat_natCast]
    unfold Ka.rb Ka.re
    rw [if_pos hk4, if_pos hk4]; rfl
  · have hk4 : p.k ≠ 4 := fun g => hk (by rw [g]; rfl)
    refine s_load (p.b : Int) c1 (s_load (p.e : Int) c2 (s_chk ⟨by omega, by omega, by omega⟩ (s_leaf ⟨rfl, ?_, k0⟩)))
    rw [Int.toNat_natCast, Int.toNat_natCast]
    unfold Ka.rb Ka.re
    rw [if_neg hk4, if_neg hk4]; rfl
theorem wf_kind {p : PT} (h : WfV s p) : p.k ≤ 6 := by
  obtain ⟨k, b, f, ns, ks⟩ := p
  show k ≤ 6
  unfold WfV at h
  obtain ⟨_, _, ⟨_, _, _, h⟩ | ⟨h, _⟩ | ⟨h, _⟩ | ⟨h, _⟩⟩ := h
  · rcases h with ⟨h, _⟩ | ⟨h, _⟩ | ⟨h, _⟩ | ⟨h, _⟩ <;> omega
  · omega
  · omega
  · omega
theorem jpKind_any {k : Nat} (hk : k ≤ 6) : Calls Tryd.prog 25 #[.int .i64 (k : Int)] w fun e w' => e = .returned (.int .i64 (Ka.jk k)) ∧ w' = w := by
  refine laws_jpKind.calls _ ?_
  unfold laws_jpKind.t
  have : k = 0 ∨ k = 1 ∨ k = 2 ∨ k = 3 ∨ k = 4 ∨ k = 5 ∨ k = 6 := by omega
  rcases this with rfl | rfl | rfl | rfl | rfl | rfl | rfl
  · exact sat_iteF.2 (sat_iteF.2 (sat_iteF.2 (sat_iteF.2 (sat_iteF.2 (sat_iteF.2 (s_leaf ⟨rfl, rfl, rfl⟩))))))
  · exact sat_iteF.2 (sat_iteF.2 (sat_iteF.2 (sat_iteF.2 (sat_iteF.2 (sat_iteT.2 (s_leaf ⟨rfl, rfl, rfl⟩))))))
  · exact sat_iteF.2 (sat_iteF.2 (sat_iteF.2 (sat_iteF.2 (sat_iteT.2 (sat_iteT.2 (s_leaf ⟨rfl, rfl, rfl⟩))))))
  · exact sat_iteF.2 (sat_iteT.2 (s_leaf ⟨rfl, rfl, rfl⟩))
  · exact sat_iteT.2 (s_leaf ⟨rfl, rfl, rfl⟩)
  · exact sat_iteF.2 (sat_iteF.2 (sat_iteF.2 (sat_iteT.2 (s_leaf ⟨rfl, rfl, rfl⟩))))
  · exact sat_iteF.2 (sat_iteF.2 (sat_iteT.2 (s_leaf ⟨rfl, rfl, rfl⟩)))
end Go.Proofs.YtlfebfkphgelfaaDoor.Lj
