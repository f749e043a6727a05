/- jsonparser: the look-up by keys that lead to an object that lacks the next one. No statement of the set is proved here. -/
import Derived.Test.YtlfebfkphgelfaaDoorMI
import Derived.Test.YtlfebfkphgelfaaDoorGm
import Derived.LaidEql
namespace Go.Proofs.YtlfebfkphgelfaaDoor.Ka
open Go Go.Proofs Go.RowKit Go.Proofs.YtlfebfkphgelfaaDoor.Rx Go.Proofs.YtlfebfkphgelfaaDoor.Tr Go.Proofs.YtlfebfkphgelfaaDoor.Pl Go.Proofs.YtlfebfkphgelfaaDoor.Pw Go.Proofs.YtlfebfkphgelfaaDoor.Sk

variable {w w' : World} {x q : Sl} {s : ByteArray} {keys : List ByteArray} {p0 p : PT}
abbrev tPE : TypeId := 156
def gK : Nat := 4
/-- The error of what is not found. -/
def Ek (w : World) (a : Addr) : Prop := w.cell? ⟨gK, 0, none⟩ = some (.iface tPE (.pointer (some a)))
theorem Ek.kp {a : Addr} (h : Ek w a) (k : Kp Off w w') : Ek w' a := by
  unfold Ek
  rw [k.cell (a := ⟨gK, 0, none⟩) (Ms.cell_lt h) id]; exact h
/-- Keys lead in a text to an object that lacks the next one. -/
structure Mis (s : ByteArray) (p0 : PT) (keys : List ByteArray) : Prop where
  at0 : bl s 0 = p0.b
  wf : WfV s p0
  fin : bl s p0.e = s.size
  miss : Gk.Miss (nmS s) ixS p0 keys
theorem Mis.find (h : Mis s p0 keys) : Gk.Go s (nmS s) ixS s.size keys 0 0 0 true none := by
  have hlt := h.wf.lt
  have g1 := Gk.go_miss h.miss h.wf s.size keys 0 hlt.2 rfl (fun j g1 g2 => bl_blank s p0.e j g1 (by rw [h.fin]; exact g2))
  exact Gk.Go.gap (a := 0) (b := p0.b) rfl (Nat.zero_le _) (by omega) (fun j _ hj => bl_blank s 0 j (Nat.zero_le _) (by rw [h.at0]; exact hj)) g1
/-- The look-up by keys. -/
theorem getK_miss {a : Addr} (hs : s.size ≤ 8000000) (hL : Je.Lt w) (hE : Je.Ev w Je.gE) (hk : Ek w a) (hT : Tx w x s 0 s.size) (hKx : Kx w q keys) (h : Mis s p0 keys) :
    Calls Tryd.prog 51 #[cfg 0, slV x, slV q] w fun en w' => en = .returned (.tuple #[.slice none 0 0, .int .i64 0, .int .i64 (-1), .int .i64 (-1), .iface tPE (.pointer (some a))]) ∧ Kp Off w w' := by
  have hl := hKx.len
  have hne := h.miss.ne
  have hpos := List.length_pos_iff.2 hne
  refine jsonparser_internalGetConfig.calls _ _ _ _ _ _ _ _ _ ?_
  unfold jsonparser_internalGetConfig.t
  refine s_alloc ?_
  have b0 := Blk.new w (cfC 0) tCf
  have k0 : Kp Off w (w.alloc (.cells (cfC 0).toArray tCf (0, 0))) := (Kp.refl Off w).alloc _
  show sat _ _ _ (w.alloc (.cells (cfC 0).toArray tCf (0, 0)))
  generalize w.alloc (.cells (cfC 0).toArray tCf (0, 0)) = w1 at k0 b0
  refine s_cut (fun _ _ => False) (s_iteD (fun g => ?_) (fun g => absurd (by omega) g)) (fun _ _ g => g.elim)
  refine s_eff (w' := w1) (false, false, (0 : Int), ()) (cfg_run b0) ?_
  refine s_call (search_opt (r := none) hs (hL.off' k0) (hE.kp k0 id) (hT.kp k0) (hKx.kp k0) (.inr ⟨hne, h.find⟩)) ?_
  rintro en w2 ⟨rfl, k2⟩
  refine ⟨(-1 : Int), rfl, s_iteE (fun _ => s_drew ?_) (fun g => absurd rfl g)⟩
  have K := (k0.trans k2).drew
  refine s_load (Value.iface tPE (.pointer (some a))) (hk.kp K) (s_leaf ?_)
  rw [if_neg (by decide)]
  exact ⟨rfl, rfl, K⟩
/-- The error is that error. -/
theorem neq_same (a : Addr) (x y : Operand) (w : World) : (Bind.bind (eqGuard BinOp.neq 51 x y (.iface tPE (.pointer (some a))) (.iface tPE (.pointer (some a)))) (fun (_ : Unit) => (binOp BinOp.neq 51 (.iface tPE (.pointer (some a))) (.iface tPE (.pointer (some a))))) : Sem Value).run Tryd.prog w = .ok (.bool false) w := by
  have h := run_equalIn_iface_ptr_same (P := Tryd.prog) w 9998 a Tryd.underlying51 Tryd.underlying156 (info_some (by kernel_rfl)) (by kernel_rfl) (info_some (by kernel_rfl))
  have h1 : (binOp .neq 51 (.iface tPE (.pointer (some a))) (.iface tPE (.pointer (some a)))).run Tryd.prog w = .ok (.bool false) w := by
    simp only [binOp]
    simp [Op.equal, Op.maxDepth, h]
  simpa [eqGuard] using h1
end Go.Proofs.YtlfebfkphgelfaaDoor.Ka
