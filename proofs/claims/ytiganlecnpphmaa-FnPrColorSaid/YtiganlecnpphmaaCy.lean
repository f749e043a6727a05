/- impl.PrColor and the reference's Colored. No statement of the set is proved here. -/
import Derived.Test.YtiganlecnpphmaaCx
import Derived.Test.YtiganlecnpphmaaCv
namespace Go.Proofs.Ytiganlecnpphmaa.Cy
open Go Go.Proofs Go.RowKit Go.Proofs.Ytiganlecnpphmaa.Rx Go.Proofs.Ytiganlecnpphmaa.Tr Go.Proofs.Ytiganlecnpphmaa.Pl Go.Proofs.Ytiganlecnpphmaa.Pw Go.Proofs.Ytiganlecnpphmaa.Bw Go.Proofs.Ytiganlecnpphmaa.Co
open Go.Proofs.Ytiganlecnpphmaa.Sr (slV tBs tB Sl tP pc PlAt AllAt RowIn loadP)
open Go.Proofs.Ytiganlecnpphmaa.Cw Go.Proofs.Ytiganlecnpphmaa.Cc

abbrev tS : TypeId := 24
/-- A style's cells. -/
abbrev sC (st : Sy) : List Value := [.string (st 0), .string (st 1), .string (st 2), .string (st 3), .string (st 4), .string (st 5), .string (st 6), .string (st 7), .string (st 8), .string (st 9), .string (st 10), .string (st 11), .string (st 12), .string (st 13), .string (st 14), .string (st 15)]
abbrev sA (st : Sy) : Value := .agg #[.string (st 0), .string (st 1), .string (st 2), .string (st 3), .string (st 4), .string (st 5), .string (st 6), .string (st 7), .string (st 8), .string (st 9), .string (st 10), .string (st 11), .string (st 12), .string (st 13), .string (st 14), .string (st 15)]
variable {w w1 : World} {s : ByteArray} {st : Sy} {p : PT} {g : Nat}
theorem style_run (hb : Blk w g (sC st) tS) : (Instr.loadAt tS (.pointer (some ⟨g, 0, none⟩))).run Try.prog w = .ok (sA st) w := by
  have hi := info_some (P := Try.prog) (t := tS) (by kernel_rfl)
  have hs : ((Try.prog.info? tS).get (by kernel_rfl)).size = 16 := by kernel_rfl
  have ha : aggT Try.prog tS = some true := by kernel_rfl
  have hl := loadCells_run (P := Try.prog) 16 0 w g (sC st) #[] tS (Nat.le_refl 16) hb
  simp only [Instr.loadAt, Instr.sureAddr, loadVar, Sem.run_bind, Sem.run_pure, Result.andThen_ok, run_agg ha, if_true, run_size hi, loadCells, hs]
  rw [hl]
  rfl
theorem convert_bytesC {P : Program} {w : World} {src dst e : TypeId} {u : TypeDesc} (s : ByteArray) (hs : P.underlying src = some u) (hd : P.underlying dst = some (.slice e)) (he : P.underlying e = some (.int .u8)) :
    ∃ c w', (convert src dst (.string s)).run P w = .ok (.slice (some ⟨w.heap.size, 0, none⟩) s.size c) w' ∧ s.size ≤ c ∧ Byts w' ⟨w.heap.size, 0, none⟩ s ∧ Kp Off w w' ∧ w.heap.size < w'.heap.size := by
  obtain ⟨c, w', h1, h2, h3⟩ := convert_bytes s hs hd he
  refine ⟨c, w', h1, ?_, h2, h3, ?_⟩
  · have := Lib.run_convert_string_bytes w src dst e s hs hd he
    rw [this] at h1
    cases h1
    exact grownCap_ge w s.size 0 e
  · have := Lib.run_convert_string_bytes w src dst e s hs hd he
    rw [this] at h1
    cases h1
    rw [Lib.bytesWorld_size]; omega
/-- The text of the colored JSON text. -/
def cs (st : Sy) (s : ByteArray) (p : PT) : ByteArray := ⟨(colored (mb st) s p).toArray⟩
theorem col_len (hm : ∀ k, (st k).size ≤ 64) (hs : s.size ≤ 4096) (hb : p.b = bl s 0) (hw : WfV s p) (he : bl s p.e = s.size) : (colored (mb st) s p).length ≤ 2457600 := by
  have := run_len (ml_of hm) (run_all (m := mb st) hb hw he)
  omega
theorem prColor_any (hs : s.size ≤ 4096) (hm : ∀ k, (st k).size ≤ 64) (hN : NB s) (hb : p.b = bl s 0) (hw : WfV s p) (he : bl s p.e = s.size) :
    Calls Try.prog 7 #[.string s, sA st] w fun e w' => e = .returned (.string (cs st s p)) ∧ Kp Off w w' := by
  refine impl_PrColor.calls _ _ _ _ _ _ _ _ _ _ _ _ _ _ _ _ _ ?_
  unfold impl_PrColor.t
  refine s_alloc ?_
  have b0 := Blk.new w (sC st) tS
  have k0 : Kp Off w (w.alloc (.cells (sC st).toArray tS (0, 0))) := (Kp.refl Off w).alloc _
  generalize hw1 : w.alloc (.cells #[.string (st 0), .string (st 1), .string (st 2), .string (st 3), .string (st 4), .string (st 5), .string (st 6), .string (st 7), .string (st 8), .string (st 9), .string (st 10), .string (st 11), .string (st 12), .string (st 13), .string (st 14), .string (st 15)] tS (0, 0)) = w1
  have hw1' : w.alloc (.cells (sC st).toArray tS (0, 0)) = w1 := hw1
  rw [hw1'] at b0 k0
  obtain ⟨c, w2, h2, hc, hby, k2, hlt⟩ := convert_bytesC (P := Try.prog) (w := w1) s Try.underlying9 Try.underlying37 Try.underlying5
  refine s_eff (some ⟨w1.heap.size, 0, none⟩, s.size, c) h2 ?_
  have b2 := k2.blk b0 id
  refine s_eff (st 0, st 1, ()) (pair_run (b2.cell 0) (b2.cell 1)) ?_
  refine s_eff (st 2, st 3, ()) (pair_run (b2.cell 2) (b2.cell 3)) ?_
  refine s_eff (st 4, st 5, ()) (pair_run (b2.cell 4) (b2.cell 5)) ?_
  refine s_eff (st 6, st 7, ()) (pair_run (b2.cell 6) (b2.cell 7)) ?_
  refine s_eff (st 8, st 9, ()) (pair_run (b2.cell 8) (b2.cell 9)) ?_
  refine s_eff (st 10, st 11, ()) (pair_run (b2.cell 10) (b2.cell 11)) ?_
  refine s_eff (st 12, st 13, ()) (pair_run (b2.cell 12) (b2.cell 13)) ?_
  refine s_eff (st 14, st 15, ()) (pair_run (b2.cell 14) (b2.cell 15)) ?_
  refine s_alloc ?_
  have b3 := Blk.new w2 (sC st ++ [Value.nilFunc]) 42
  have k3 : Kp Off w2 (w2.alloc (.cells (sC st ++ [Value.nilFunc]).toArray 42 (0, 0))) := (Kp.refl Off w2).alloc _
  have hlt3 := b3.lt
  have k03 := (k0.trans k2).trans k3
  show sat _ _ _ (w2.alloc (.cells (sC st ++ [Value.nilFunc]).toArray 42 (0, 0)))
  generalize w2.alloc (.cells (sC st ++ [Value.nilFunc]).toArray 42 (0, 0)) = w3 at b3 k3 hlt3 k03
  have I : In w3 s st w1.heap.size w2.heap.size := by
    refine ⟨⟨hby.1, fun j hj => ?_⟩, fun _ => by have := k3.size; omega, fun j hj => ?_, hlt3⟩
    · have := hby.2 j hj
      rw [← this]
      exact k3.cell (a := ⟨w1.heap.size, 0 + j, none⟩) hlt id
    · rw [b3.cell j]
      have : ∀ j, j < 16 → (sC st ++ [Value.nilFunc])[j]? = some (.string (st j)) := by
        intro j hj
        match j, hj with
        | 0, _ => rfl
        | 1, _ => rfl
        | 2, _ => rfl
        | 3, _ => rfl
        | 4, _ => rfl
        | 5, _ => rfl
        | 6, _ => rfl
        | 7, _ => rfl
        | 8, _ => rfl
        | 9, _ => rfl
        | 10, _ => rfl
        | 11, _ => rfl
        | 12, _ => rfl
        | 13, _ => rfl
        | 14, _ => rfl
        | 15, _ => rfl
        | n + 16, h => exact absurd h (by omega)
      exact this j hj
  have hlen := col_len (st := st) hm hs hb hw he
  refine s_call (color_any I (b3.cell 16) (by omega) hm hN hc (run_all hb hw he) (by omega)) ?_
  rintro e w4 ⟨x4, rfl, hB, k4⟩
  refine ⟨x4, rfl, s_eff (cs st s p) hB.toStr (s_leaf ⟨rfl, rfl, k03.trans k4⟩)⟩
theorem colored_any {na ka : Sl} (hs : s.size ≤ 4096) (hm : ∀ k, (st k).size ≤ 64) (hb : p.b = bl s 0) (hw : WfV s p) (he : bl s p.e = s.size) (hp : PlAt (fun q => q < w.heap.size) w p (pc p.k p.b p.e na ka)) :
    Calls Try.prog 8 #[.string s, .agg (pc p.k p.b p.e na ka).toArray, sA st] w fun e w' => e = .returned (.string (cs st s p)) ∧ Kp Off w w' := by
  have hlen := col_len (st := st) hm hs hb hw he
  have hlt := hw.lt
  refine spec_Colored.calls _ _ _ _ _ _ _ _ _ _ _ _ _ _ _ _ _ _ _ _ _ _ _ _ _ _ ?_
  unfold spec_Colored.t
  refine s_alloc ?_
  have p0 := Blk.new w (pc p.k p.b p.e na ka) tP
  have k0 : Kp Off w (w.alloc (.cells (pc p.k p.b p.e na ka).toArray tP (0, 0))) := (Kp.refl Off w).alloc _
  show sat _ _ _ (w.alloc (.cells (pc p.k p.b p.e na ka).toArray tP (0, 0)))
  generalize w.alloc (.cells (pc p.k p.b p.e na ka).toArray tP (0, 0)) = w1 at p0 k0
  refine s_alloc ?_
  have b1 := Blk.new w1 (sC st) tS
  have k1 : Kp Off w1 (w1.alloc (.cells (sC st).toArray tS (0, 0))) := (Kp.refl Off w1).alloc _
  show sat _ _ _ (w1.alloc (.cells (sC st).toArray tS (0, 0)))
  generalize w1.alloc (.cells (sC st).toArray tS (0, 0)) = w2 at b1 k1
  refine s_eff (st 0, st 1, st 2, st 3, st 4, st 5, st 6, st 7, st 8, st 9, st 10, st 11, st 12, st 13, st 14, st 15, ()) (style_run b1) ?_
  refine s_alloc ?_
  have c2 := Blk.new w2 (cC (ByteArray.mk #[]) (fun _ => ByteArray.mk #[]) (.slice none 0 0)) tC
  have k2 : Kp Off w2 (w2.alloc (.cells (cC (ByteArray.mk #[]) (fun _ => ByteArray.mk #[]) (.slice none 0 0)).toArray tC (0, 0))) := (Kp.refl Off w2).alloc _
  show sat _ _ _ (w2.alloc (.cells (cC (ByteArray.mk #[]) (fun _ => ByteArray.mk #[]) (.slice none 0 0)).toArray tC (0, 0)))
  generalize w2.alloc (.cells (cC (ByteArray.mk #[]) (fun _ => ByteArray.mk #[]) (.slice none 0 0)).toArray tC (0, 0)) = w3 at c2 k2
  obtain ⟨w4, h4, c4, k4⟩ := storeAt_run (P := Try.prog) (t := tC) (cC s st (slV (none, 0, 0))) c2 (info_some (by kernel_rfl)) (by kernel_rfl) rfl rfl
  refine s_effU h4 ?_
  have hz := p0.lt
  have hz1 := k1.size
  have hz2 := k2.size
  have C4 : CO s st w2.heap.size w2.heap.size w4 (none, 0, 0) [] := ⟨c4, Bw.BR.nil _ _, Nat.le_refl _, by simp [Own, slV, Value.ownBlock]⟩
  have K : Kp Off w w4 := ((k0.trans k1).trans k2).then k4 fun i hi e => by have : i = w2.heap.size := e; omega
  have p4 : Blk w4 w.heap.size (pc p.k p.b p.e na ka) tP := k4.blk ((k1.trans k2).blk p0 id) (fun e => by have : w.heap.size = w2.heap.size := e; omega)
  refine s_load (p.b : Int) (p4.cell 1) ?_
  refine s_call (gap_any (obj := false) (a := 0) (b := p.b) C4 (by omega) (Nat.zero_le _) (by omega) hm (by simp; omega)) ?_
  rintro e w5 ⟨rfl, x5, C5, a5⟩
  refine ⟨(), rfl, ?_⟩
  have pk : ∀ {x x' : Sl} {w' w'' : World} {D : List UInt8}, CO s st w2.heap.size w2.heap.size w' x D → Af w2.heap.size w' x w'' x' → Blk w' w.heap.size (pc p.k p.b p.e na ka) tP → Blk w'' w.heap.size (pc p.k p.b p.e na ka) tP := fun hC a hb => a.kp.blk hb (hC.below (by omega))
  have p5 := pk C4 a5 p4
  refine s_eff ((p.k : Int), (p.b : Int), (p.e : Int), na, ka, ()) (loadP p5) ?_
  have hp4 : PlAt (fun q => q < w2.heap.size) w4 p (pc p.k p.b p.e na ka) := PlAt.kp K (fun q hq _ => ⟨by omega, id⟩) hp
  have hcl : (gp (mb st) s false 0 p.b).length + (colV (mb st) s p).length ≤ 2457600 := by
    have := hlen
    unfold colored at this
    simp only [List.length_append] at this
    omega
  refine s_call (val_c (by omega) hm p _ _ _ _ _ na ka C5 hw (a5.plAt C4 hp4) (by rw [List.nil_append]; omega)) ?_
  rintro e w6 ⟨rfl, x6, C6, a6⟩
  refine ⟨(), rfl, ?_⟩
  have p6 := pk C5 a6 p5
  refine s_load (p.e : Int) (p6.cell 2) ?_
  refine s_call (gap_any (obj := false) (a := p.e) (b := s.size) C6 (Nat.le_refl _) hlt.2 (by omega) hm (by simp only [List.nil_append, List.length_append]; omega)) ?_
  rintro e w7 ⟨rfl, x7, C7, a7⟩
  refine ⟨(), rfl, ?_⟩
  refine s_load x7 (C7.blk.cell 17) (s_eff (w' := w7) (cs st s p) ?_ (s_leaf ⟨rfl, rfl, ?_⟩))
  · have := C7.row.toStr
    refine this.trans ?_
    have e : [] ++ gp (mb st) s false 0 p.b ++ colV (mb st) s p ++ gp (mb st) s false p.e s.size = colored (mb st) s p := by unfold colored; simp only [List.nil_append, List.append_assoc]
    rw [e]; rfl
  · exact K.then ((a5.trans a6).trans a7).kp fun i hi c => (C4.below (by omega)) c
end Go.Proofs.Ytiganlecnpphmaa.Cy
