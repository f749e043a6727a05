/- fastjson's Parser.Parse over a text that a JSON value begins; errors.New, cache.reset. No statement of the set is proved here. -/
import Derived.Test.YtkpnomdmnhhaoaaGreatDoorZw
import Derived.Test.YtkpnomdmnhhaoaaGreatDoorZi
import Derived.Test.YtkpnomdmnhhaoaaGreatDoorEa
namespace Go.Proofs.YtkpnomdmnhhaoaaGreatDoor.Zv
open Go Go.Proofs Go.RowKit Go.Proofs.YtkpnomdmnhhaoaaGreatDoor.Rx Go.Proofs.YtkpnomdmnhhaoaaGreatDoor.Tr Go.Proofs.YtkpnomdmnhhaoaaGreatDoor.Pl Go.Proofs.YtkpnomdmnhhaoaaGreatDoor.Pw Go.Proofs.YtkpnomdmnhhaoaaGreatDoor.Sk Go.Proofs.YtkpnomdmnhhaoaaGreatDoor.Zs Go.Proofs.YtkpnomdmnhhaoaaGreatDoor.Bw
open Go.Proofs.YtkpnomdmnhhaoaaGreatDoor.Sr (Sl slV tBs tB)
open Go.Proofs.YtkpnomdmnhhaoaaGreatDoor.Ed (mvP mvL mvP_b mvP_e mvP_k Ag Stop Nst)

abbrev tPr : TypeId := 48
variable {w w0 w' w'' w1 : World} {gp o : Nat} {x0 x x1 x2 : Sl} {v c : Nat × Nat} {s : ByteArray}
/-- An error that is there. -/
def Err (e : Value) : Prop := isIface e = true ∧ isNil e = false
theorem new_any {text : ByteArray} : Calls Tryz.prog 38 #[.string text] w fun e w' => ∃ er, e = .returned er ∧ Err er ∧ Kp Off w w' := by
  refine errors_New.calls _ ?_
  unfold errors_New.t
  exact s_alloc (s_leaf ⟨rfl, _, rfl, ⟨rfl, rfl⟩, (Kp.refl Off w).alloc _⟩)
/-- cache.reset of an empty cache. -/
theorem creset_any (hc : w.cell? ⟨gp, o, none⟩ = some (slV (none, 0, 0))) (hf : w.frozen? ⟨gp, o, none⟩ = false) : Calls Tryz.prog 36 #[.pointer (some ⟨gp, o, none⟩)] w fun e w' => e = .returned (.tuple #[]) ∧ w' = w.setCell ⟨gp, o, none⟩ (slV (none, 0, 0)) := by
  refine fastjson_cache_reset.calls _ ?_
  unfold fastjson_cache_reset.t
  refine s_ptr (s_load (none, 0, 0) (by rw [addr_add]; exact hc) ?_)
  refine s_loop (fun n z w' => z = ((0 : Int), ()) ∧ w' = w) 0 ((0 : Int), ()) rfl ⟨rfl, rfl⟩ ?_
  rintro n z w1 ⟨rfl, rfl⟩
  show sat _ (fastjson_cache_reset.t1 (some ⟨gp, o, none⟩) (none, 0, 0) (0 : Int)) _ _
  unfold fastjson_cache_reset.t1
  refine s_iteD (fun h => absurd h (by decide)) (fun _ => s_chk (by decide) (s_ptr (s_store (by rw [addr_add]; exact hc) (by rw [addr_add]; exact hf) (s_leaf ?_))))
  rw [if_neg (by decide)]
  exact ⟨rfl, rfl, by rw [addr_add]; rfl⟩
theorem bl_sfx (u : Nat) : ∀ (n i : Nat), s.size - (u + i) ≤ n → u + i ≤ s.size → u + bl (sfx s u) i = bl s (u + i)
  | n, i, hn, hi => by
    have hz := sfx_size s u
    have hb := sfx_bt s u i
    cases h : isB (bt s ((u + i : Nat) : Int)) with
    | false => rw [bl_no h, bl_no (by rw [hb]; exact h)]
    | true =>
      have hlt : u + i < s.size := lt_of_bt (by have := isB_iff.1 h; omega)
      rw [bl_yes h, bl_yes (by rw [hb]; exact h)]
      cases n with
      | zero => omega
      | succ n => exact bl_sfx u n (i + 1) (by omega) (by omega)
mutual
theorem lv_mv (u v : Nat) : ∀ p : PT, lv (mvP u v p) = lv p
  | .mk k b e ns ks => by
    unfold mvP lv
    rw [lvL_mv u v ks]
theorem lvL_mv (u v : Nat) : ∀ ks : List PT, lvL (mvL u v ks) = lvL ks
  | [] => by unfold mvL; rfl
  | p :: ks => by
    unfold mvL lvL
    rw [lv_mv u v p, lvL_mv u v ks]
end
theorem ag_sfx (u : Nat) (hu : u ≤ s.size) : Ag s (sfx s u) u 0 s.size := by
  refine ⟨fun j h1 h2 => ?_, ?_, hu⟩
  · have := sfx_bt s u (j - u)
    rw [show u + (j - u) = j by omega] at this
    rw [← this]
    congr 2
  · rw [sfx_size]; show s.size + 0 - u ≤ s.size - u; omega
/-- A value at the text's begin, moved to where the text is cut off. -/
theorem wf_sfx {p : PT} (hw : WfV s p) : WfV (sfx s p.b) (mvP p.b 0 p) ∧ (mvP p.b 0 p).b = 0 ∧ (mvP p.b 0 p).e = p.e - p.b := by
  have hl := hw.lt
  refine ⟨Ag.wfV (ag_sfx p.b (by omega)) p hw (Nat.le_refl _) ?_, ?_, ?_⟩
  · rcases Nat.lt_or_ge p.e s.size with g | g
    · exact .inl g
    · refine .inr ⟨by omega, ?_⟩
      have : bt (sfx s p.b) (Ed.sh p.b 0 s.size : Int) = 0 := bt_end (by rw [sfx_size]; show s.size - p.b ≤ s.size + 0 - p.b; omega)
      rw [this]
      exact ⟨rfl, by decide, by decide, by decide⟩
  · rw [mvP_b]; show p.b + 0 - p.b = 0; omega
  · rw [mvP_e]; show p.e + 0 - p.b = p.e - p.b; omega
theorem b2s_br {base : Nat} {z : Sl} {l : List UInt8} (h : BR w base z l) : Calls Tryz.prog 37 #[slV z] w fun e w' => e = .returned (.string ⟨l.toArray⟩) ∧ w' = w := by
  refine fastjson_b2s.calls _ _ _ ?_
  unfold fastjson_b2s.t
  exact s_eff (⟨l.toArray⟩ : ByteArray) h.toStr (s_leaf ⟨rfl, rfl, rfl⟩)
/-- What Parse says of a text that a value begins. -/
def ParsePost (s : ByteArray) (p : PT) (gp : Nat) (w : World) (e : Ending) (w' : World) : Prop :=
  (bl s p.e = s.size → ∃ (x1 : Sl) (v : Nat × Nat), e = .returned (.tuple #[ptrV v, .nilIface]) ∧ VAt (sfx s p.b) w' (mvP p.b 0 p) v (Reg (none, 0, 0) w.heap.size x1 w'.heap.size)) ∧
  (bl s p.e ≠ s.size → ∃ er, e = .returned (.tuple #[.pointer none, er]) ∧ Err er) ∧ Kp (On gp) w w'
theorem parse_any {p : PT} (hs : s.size ≤ 100000) (hw : WfV s p) (hb : p.b = bl s 0) (hd : p.k = 3 → isN (bt s (p.e : Int)) = false) (hlv : lv p ≤ 300) (hB : Blk w gp [slV (none, 0, 0), slV (none, 0, 0)] tPr) :
    Calls Tryz.prog 19 #[.pointer (some ⟨gp, 0, none⟩), .string s] w (ParsePost s p gp w) := by
  have hl := hw.lt
  have hs62 : s.size < 4611686018427387904 := by omega
  have hzt := sfx_size s p.b
  obtain ⟨hwq, hqb, hqe⟩ := wf_sfx hw
  have hz0 := hB.lt
  refine fastjson_Parser_Parse.calls _ _ ?_
  unfold fastjson_Parser_Parse.t
  have hsk := skip_any (w := w) (s := s) (i := 0) hs62
  rw [sfx_zero, ← hb] at hsk
  refine s_call hsk ?_
  rintro e w1 ⟨rfl, rfl⟩
  refine ⟨sfx s p.b, rfl, s_ptr (s_load (none, 0, 0) (by rw [addr_add]; exact hB.cell 0) (s_chk (by decide) ?_))⟩
  refine s_putS (x := (none, 0, 0)) (l := []) (base := w1.heap.size) (BR.nil w1 _) (Nat.le_refl _) (by show 0 + _ ≤ _; omega) rfl fun z w2 hR k2 hnew => ?_
  have k2 : Kp Off w1 w2 := k2.mono fun q _ hq => (by cases hq)
  have hB2 := k2.blk hB id
  rw [List.nil_append] at hR
  refine s_ptr (s_store (by rw [addr_add]; exact hB2.cell 0) (by rw [addr_add]; exact hB2.free 0) ?_)
  show sat _ _ _ (w2.setCell (Addr.add ⟨gp, 0, none⟩ 0) (slV z))
  rw [addr_add]
  have hB3 := hB2.set 0 (slV z)
  have k3 : Kp (On gp) w2 (w2.setCell ⟨gp, 0, none⟩ (slV z)) := (Kp.refl _ w2).on 0 _
  have zne : ∀ q, some q = (slV z).ownBlock → q ≠ gp := fun q hq e => by
    rcases hnew q hq with h | h
    · cases h
    · omega
  have hR3 := hR.kp k3 fun q hq c => zne q hq c
  generalize w2.setCell ⟨gp, 0, none⟩ (slV z) = w3 at hB3 k3 hR3
  have hB3 : Blk w3 gp [slV z, slV (none, 0, 0)] tPr := hB3
  refine s_ptr ?_
  rw [addr_add]
  refine s_call (creset_any (o := 0 + 1) (hB3.cell 1) (hB3.free 1)) ?_
  rintro e w4 ⟨rfl, rfl⟩
  have hB4 := hB3.set 1 (slV (none, 0, 0))
  have k4 : Kp (On gp) w3 (w3.setCell ⟨gp, 1, none⟩ (slV (none, 0, 0))) := (Kp.refl _ w3).on 1 _
  have hR4 := hR3.kp k4 fun q hq c => zne q hq c
  refine ⟨(), rfl, ?_⟩
  show sat _ _ _ (w3.setCell ⟨gp, 1, none⟩ (slV (none, 0, 0)))
  generalize w3.setCell ⟨gp, 1, none⟩ (slV (none, 0, 0)) = w4 at hB4 k4 hR4
  have hB4 : Blk w4 gp [slV z, slV (none, 0, 0)] tPr := hB4
  have kd : Kp Off w4 w4.drew := (Kp.refl Off w4).drew
  have hB5 := kd.blk hB4 id
  have hR5 := hR4.kp kd fun _ _ => id
  have k15 : Kp (On gp) w1 w4.drew := (((Kp.off k2).trans k3).trans k4).trans (Kp.off kd)
  refine s_drew ?_
  generalize w4.drew = w5 at hB5 hR5 k15
  clear hB hB2 hB3 hB4 hR hR3 hR4 k2 k3 k4 kd hnew zne hsk
  refine s_ptr (s_ptr (s_load z (by rw [addr_add]; exact hB5.cell 0) (Nt.s_hereN ?_)))
  refine s_call (b2s_br hR5) ?_
  rintro e w6 ⟨rfl, rfl⟩
  rw [Ze.bytes_back]
  refine ⟨sfx s p.b, rfl, (Kp.refl Off _).belowOff, ?_⟩
  rw [addr_add]
  have hC : CS w6 gp (0 + 1) (none, 0, 0) := ⟨hB5.cell 1, hB5.free 1, .inl rfl⟩
  have hlq := hwq.lt
  have hde : bt (sfx s p.b) ((mvP p.b 0 p).e : Int) = bt s (p.e : Int) := by
    rw [hqe, sfx_bt, show p.b + (p.e - p.b) = p.e by omega]
  have hpv := val_all (s := sfx s p.b) (by omega) ((mvP p.b 0 p).e - (mvP p.b 0 p).b + 1) (mvP p.b 0 p) w6 (none, 0, 0) 0 gp (0 + 1) (Nat.lt_succ_self _) hwq (fun h => by rw [hde]; exact hd (by rw [← mvP_k p.b 0 p]; exact h)) hC (by show 0 + _ ≤ 100000; omega) (by rw [lv_mv]; omega)
  rw [hqb, sfx_zero] at hpv
  refine s_call hpv ?_
  rintro e w7 ⟨x1, v, rfl, hC7, hA7, hK7, hV7, hn7⟩
  refine ⟨(some ⟨v.1, v.2, none⟩, sfx (sfx s p.b) (mvP p.b 0 p).e, .nilIface, ()), rfl, s_chk rfl (sat_iteF.2 ?_)⟩
  refine s_call (skip_any (s := sfx s p.b) (by omega)) ?_
  rintro e w8 ⟨rfl, rfl⟩
  refine ⟨sfx (sfx s p.b) (bl (sfx s p.b) (mvP p.b 0 p).e), rfl, ?_⟩
  have k18 : Kp (On gp) w1 w8 := ⟨hK7.os.trans k15.os, hK7.tape.trans k15.tape, hK7.output.trans k15.output, Nat.le_trans k15.size hK7.size, fun b hb hn =>
    (hK7.block b (Nat.lt_of_lt_of_le hb k15.size) hn fun a ha => by cases ha).trans (k15.block b hb hn)⟩
  have hzz := sfx_size (sfx s p.b) (bl (sfx s p.b) (mvP p.b 0 p).e)
  have hbl := bl_sfx (s := s) p.b _ (mvP p.b 0 p).e (Nat.le_refl _) (by omega)
  rw [show p.b + (mvP p.b 0 p).e = p.e by omega] at hbl
  have hble := bl_le s p.e (by omega)
  refine s_iteD (fun h => ?_) (fun h => s_leaf ⟨rfl, fun _ => ⟨x1, v, rfl, hV7.sub fun y hy => hy.later (Adv.grow _ k15.size)⟩, fun hne => absurd (by omega) hne, k18⟩)
  refine s_call new_any ?_
  rintro e w9 ⟨er, rfl, hE, k9⟩
  exact ⟨er, rfl, s_leaf ⟨rfl, fun he => absurd he (by omega), fun _ => ⟨er, rfl, hE⟩, k18.trans (Kp.off k9)⟩⟩
end Go.Proofs.YtkpnomdmnhhaoaaGreatDoor.Zv
