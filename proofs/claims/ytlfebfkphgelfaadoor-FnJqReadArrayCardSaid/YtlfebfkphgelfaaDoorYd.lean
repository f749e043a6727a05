/- jsonparser's ReaderParser over pieces: readMore, peekByte. No statement of the set is proved here. -/
import Derived.Test.YtlfebfkphgelfaaDoorYc
namespace Go.Proofs.YtlfebfkphgelfaaDoor.Yr
open Go Go.Proofs Go.RowKit Go.Proofs.YtlfebfkphgelfaaDoor.Rx Go.Proofs.YtlfebfkphgelfaaDoor.Tr Go.Proofs.YtlfebfkphgelfaaDoor.Pl Go.Proofs.YtlfebfkphgelfaaDoor.Pw
open Go.Proofs.YtlfebfkphgelfaaDoor.Sr (Sl slV tBs tB)
open Go.Proofs.YtlfebfkphgelfaaDoor.Bw (bv gb bt_bv)

variable {w w' w'' : World} {s : ByteArray} {win : Int} {g h hp gB o i e : Nat} {ps : List ByteArray}
theorem cat_ne (H : cat ps = s.data.toList.drop e) (he : e < s.size) : ps ≠ [] := by
  intro h
  subst h
  have h1 : (s.data.toList.drop e).length = 0 := by rw [← H]; rfl
  rw [List.length_drop, ← Lib.size_eq] at h1
  omega
theorem read_res {P : Program} (v : Value) (w : World) {t : TypeId} {p : Value} (h : v = .iface t p) : (nilV v).run P w = .ok v w := by
  subst h
  rfl
/-- Room for more. -/
def Room (s : ByteArray) (win : Int) (g h hp : Nat) (w : World) (gB o i e : Nat) (ps : List ByteArray) (op pc k N : Nat) : Prop := ∃ (ob : Nat) (buf : Sl), RSb s win g h hp w gB o i e ps op pc ob k buf ∧ e - o + N ≤ buf.2.2
theorem room_any {Q : Nat → List Value → World → Prop} {op pc ob k N : Nat} {buf : Sl} (H : RSb s win g h hp w gB o i e ps op pc ob k buf) (hN : 1 ≤ N) (hN2 : N ≤ 65536)
    (hK : ∀ w' gB', Room s win g h hp w' gB' o i e ps op pc k N → Mv g h hp w gB w' gB' → sat Tryd.prog (jsonparser_ReaderParser_readMore.t4 (some ⟨g, 0, none⟩) (N : Int) buf) Q w') :
    sat Tryd.prog (jsonparser_ReaderParser_readMore.t3 (some ⟨g, 0, none⟩) (N : Int)) Q w := by
  have ho := H.ord
  have hs := H.sz
  have hl := H.len
  have hlc := H.lec
  have hcap := H.cap
  unfold jsonparser_ReaderParser_readMore.t3
  refine s_ptr (s_load buf (by rw [addr_add, Nat.zero_add, H.rp.cell]; rfl) (s_ptr (s_load buf (by rw [addr_add, Nat.zero_add, H.rp.cell]; rfl) ?_)))
  refine s_cut (fun _ w' => ∃ gB', Room s win g h hp w' gB' o i e ps op pc k N ∧ Mv g h hp w gB w' gB') ?_ (fun _ w' ⟨gB', h1, h2⟩ => hK w' gB' h1 h2)
  have e1 : IntKind.wrap IntKind.i64 (((buf.2.2 : Nat) : Int) - ((buf.2.1 : Nat) : Int)) = ((buf.2.2 - buf.2.1 : Nat) : Int) := by rw [wrap_in (by omega) (by omega)]; omega
  rw [e1]
  refine s_iteD (fun hlt => ?_) (fun hge => s_leaf ?_)
  rotate_left
  · rw [if_pos rfl]
    exact ⟨(), rfl, gB, ⟨ob, buf, H, by omega⟩, Mv.refl _ _ _ _ _⟩
  have e2 : IntKind.wrap IntKind.i64 (((buf.2.1 : Nat) : Int) + (N : Int)) = ((buf.2.1 + N : Nat) : Int) := by rw [wrap_in (by omega) (by omega)]; omega
  rw [e2]
  have hr := run_make (P := Tryd.prog) w tBs tB _ (.int .u8 0) Tryd.underlying36 (info_some (by kernel_rfl)) (by kernel_rfl) .i64 .i64 (buf.2.1 : Int) ((buf.2.1 + N : Nat) : Int) (by omega) (by omega) (by
        rw [show ((Tryd.prog.info? tB).get (by kernel_rfl)).bytes = 1 from by kernel_rfl]; omega) (by omega)
  rw [show ((Tryd.prog.info? tB).get (by kernel_rfl)).size = 1 from by kernel_rfl, Int.toNat_natCast, Int.toNat_natCast, Nat.mul_one, Je.made_zero (buf.2.1 + N) (Value.int IntKind.u8 0).cells rfl] at hr
  refine s_eff (some ⟨w.heap.size, 0, none⟩, buf.2.1, buf.2.1 + N) hr ?_
  have bn := Blk.new w (Je.cb (List.replicate (buf.2.1 + N) 0)) tB
  have kn : Kp Off w (w.alloc (.cells (Je.cb (List.replicate (buf.2.1 + N) 0)).toArray tB)) := (Kp.refl _ w).alloc _
  have zn : (w.alloc (.cells (Je.cb (List.replicate (buf.2.1 + N) 0)).toArray tB)).heap.size = w.heap.size + 1 := by simp
  show sat _ _ _ (w.alloc (.cells (Je.cb (List.replicate (buf.2.1 + N) 0)).toArray tB))
  generalize w.alloc (.cells (Je.cb (List.replicate (buf.2.1 + N) 0)).toArray tB) = w1 at bn kn zn
  have hcbl : (Je.cb (List.replicate (buf.2.1 + N) 0)).length = buf.2.1 + N := by rw [Je.cb_len, List.length_replicate]
  have b1 := kn.blk H.rp id
  refine s_ptr (s_load buf (by rw [addr_add, Nat.zero_add, b1.cell]; rfl) ?_)
  -- the copy
  obtain ⟨cs, hcsl, hcs⟩ : ∃ cs : List Value, cs.length = buf.2.1 ∧ ∀ j, j < buf.2.1 → cs[j]? = some (.int .u8 (bt s ((o + j : Nat) : Int))) := by
    refine ⟨(List.range buf.2.1).map fun j => .int .u8 (bt s ((o + j : Nat) : Int)), by simp, fun j hj => ?_⟩
    rw [List.getElem?_map, List.getElem?_range hj]; rfl
  have hcone : ∀ u ∈ cs, u.oneCell' = true := fun u hu => by
    obtain ⟨j, hj⟩ := List.mem_iff_getElem?.1 hu
    have hjl := (List.getElem?_eq_some_iff.1 hj).1
    rw [hcs j (by omega)] at hj
    cases hj; rfl
  have hex : ∀ j, j < buf.2.1 + N → (w1.cell? ⟨w.heap.size, j, none⟩).isSome = true := fun j hj => by
    rw [bn.cell, List.getElem?_eq_getElem (by omega)]; rfl
  have hcopy : (Builtin.copy_ #[tBs, tBs] 3 #[.slice (some ⟨w.heap.size, 0, none⟩) buf.2.1 (buf.2.1 + N), .slice buf.1 buf.2.1 buf.2.2]).run Tryd.prog w1 = .ok (.int .i64 (buf.2.1 : Int)) (w1.setCells w.heap.size 0 cs) := by
    have hsz : (Tryd.prog.info? tB).map (·.size) = some 1 := by kernel_rfl
    rcases Nat.eq_zero_or_pos buf.2.1 with h0 | h0
    · have hr := run_copy_none (P := Tryd.prog) w1 tBs tBs 3 tB (some ⟨w.heap.size, 0, none⟩) buf.1 buf.2.1 (buf.2.1 + N) buf.2.1 buf.2.2 Tryd.underlying36 hsz (by rw [h0]; exact Nat.zero_min _)
      have : cs = [] := List.eq_nil_of_length_eq_zero (by omega)
      subst this
      rw [hr, h0]; rfl
    · rcases H.bf with g0 | ⟨g1, g2, g3⟩
      · omega
      · rw [g1]
        have hr := run_copy_cells (P := Tryd.prog) w1 tBs tBs 3 tB w.heap.size 0 buf.2.1 (buf.2.1 + N) ⟨gB, ob, none⟩ buf.2.1 buf.2.2 cs Tryd.underlying36 hsz (by rw [hcsl]; exact (Nat.min_self _).symm) (fun j v hj => by
          have hjl := (List.getElem?_eq_some_iff.1 hj).1
          rw [addr_add, kn.cell (a := ⟨gB, ob + j, none⟩) H.gl id, g2 j (by omega), ← hcs j (by omega)]
          exact hj) (fun j hj => by rw [Nat.zero_add]; exact hex j (by omega)) (fun j hj => bn.free _) hcone
        rw [hr, hcsl]; rfl
  refine s_eff (buf.2.1 : Int) hcopy ?_
  have k2 : Kp (On w.heap.size) w1 (w1.setCells w.heap.size 0 cs) := kp_set _ cs 0 w1
  have c2 : ∀ j, j < buf.2.1 → (w1.setCells w.heap.size 0 cs).cell? ⟨w.heap.size, j, none⟩ = some (.int .u8 (bt s ((o + j : Nat) : Int))) := fun j hj => by
    have h1 := World.cell?_setCells_in w.heap.size cs 0 w1 (fun i hi => by rw [Nat.zero_add]; exact hex i (by omega)) j (by omega)
    rw [Nat.zero_add] at h1
    rw [h1, ← hcs j hj]; exact (List.getElem?_eq_getElem (by omega)).symm
  have x2 : ∀ j, j < buf.2.1 + N → ((w1.setCells w.heap.size 0 cs).cell? ⟨w.heap.size, j, none⟩).isSome = true ∧ (w1.setCells w.heap.size 0 cs).frozen? ⟨w.heap.size, j, none⟩ = false := fun j hj => by
    refine ⟨?_, by rw [World.frozen?_setCells]; exact bn.free j⟩
    rcases Nat.lt_or_ge j buf.2.1 with g1 | g1
    · rw [c2 j g1]; rfl
    · rw [World.cell?_setCells_out w.heap.size cs 0 w1 ⟨w.heap.size, j, none⟩ (fun _ _ => .inr (by show 0 + cs.length ≤ j; omega))]
      exact hex j hj
  show sat _ _ _ (w1.setCells w.heap.size 0 cs)
  generalize w1.setCells w.heap.size 0 cs = w2 at k2 c2 x2
  have hgl := H.rp.lt
  have hhl := H.pr.1.lt
  have hBl := H.gl
  have hpl := H.hpl
  have k02 : Kp Off w w2 := kn.then k2 fun q hq e => by have e : q = w.heap.size := e; omega
  have b2 := k02.blk H.rp id
  refine s_ptr (s_store (by rw [addr_add, Nat.zero_add]; exact b2.cell 1) (by rw [addr_add, Nat.zero_add]; exact b2.free 1) ?_)
  rw [addr_add, Nat.zero_add]
  have k3 : Kp (On g) w2 (w2.setCell ⟨g, 1, none⟩ (slV (some ⟨w.heap.size, 0, none⟩, buf.2.1, buf.2.1 + N))) := (Kp.refl _ w2).on 1 _
  have b3 : Blk (w2.setCell ⟨g, 1, none⟩ (slV (some ⟨w.heap.size, 0, none⟩, buf.2.1, buf.2.1 + N))) g (rc h (some ⟨w.heap.size, 0, none⟩, buf.2.1, buf.2.1 + N) (o : Int) ((i - o : Nat) : Int) win (k : Int)) tRP := b2.set 1 _
  show sat _ _ _ (w2.setCell ⟨g, 1, none⟩ (slV (some ⟨w.heap.size, 0, none⟩, buf.2.1, buf.2.1 + N)))
  generalize w2.setCell ⟨g, 1, none⟩ (slV (some ⟨w.heap.size, 0, none⟩, buf.2.1, buf.2.1 + N)) = w3 at k3 b3
  refine s_leaf ?_
  rw [if_pos rfl]
  refine ⟨(), rfl, w.heap.size, ⟨0, (some ⟨w.heap.size, 0, none⟩, buf.2.1, buf.2.1 + N), ⟨b3, ?_, hl, Nat.le_add_right _ _, by show buf.2.1 + N ≤ _; omega, ?_, H.alt, H.ord, ?_, ?_, ⟨H.ne.1, H.ne.2.1, H.ne.2.2.1, by omega, by omega, by omega⟩, H.ct, H.wn, H.sz⟩, by show _ ≤ buf.2.1 + N; omega⟩, ?_, .inr (Nat.le_refl _)⟩
  · exact (H.pr.kp k02 hpl id id).kp k3 (Nat.lt_of_lt_of_le hpl k02.size) (fun e => H.ne.1 (Eq.symm e)) (fun e => H.ne.2.1 (Eq.symm e))
  · have hw2 : w.heap.size < w2.heap.size := by have := k2.size; omega
    have hB := k3.block w.heap.size hw2 (fun e => by have e : w.heap.size = g := e; omega)
    refine .inr ⟨rfl, fun j hj => ?_, fun j hj => ?_⟩
    · rw [Nat.zero_add]
      exact (World.cell?_of_block (a := ⟨w.heap.size, j, none⟩) hB).trans (c2 j (by omega))
    · have hj : j < buf.2.1 + N := hj
      rw [Nat.zero_add]
      exact ⟨by rw [World.cell?_of_block (a := ⟨w.heap.size, j, none⟩) hB]; exact (x2 j hj).1, (World.frozen?_of_block (a := ⟨w.heap.size, j, none⟩) hB).trans (x2 j hj).2⟩
  · exact Nat.lt_of_lt_of_le hpl (Nat.le_trans k02.size k3.size)
  · have := k2.size; have := k3.size; show w.heap.size < _; omega
  · exact k02.off.trans (k3.mono fun q _ e => .inl e)
end Go.Proofs.YtlfebfkphgelfaaDoor.Yr
