/- fastjson's parseValue over any value of a JSON text; Parse. No statement of the set is proved here. -/
import Derived.Test.YtkpnomdmnhhaoaaGreatDoorZq
namespace Go.Proofs.YtkpnomdmnhhaoaaGreatDoor.Zv
open Go Go.Proofs Go.RowKit Go.Proofs.YtkpnomdmnhhaoaaGreatDoor.Rx Go.Proofs.YtkpnomdmnhhaoaaGreatDoor.Tr Go.Proofs.YtkpnomdmnhhaoaaGreatDoor.Pl Go.Proofs.YtkpnomdmnhhaoaaGreatDoor.Pw Go.Proofs.YtkpnomdmnhhaoaaGreatDoor.Sk Go.Proofs.YtkpnomdmnhhaoaaGreatDoor.Zs
open Go.Proofs.YtkpnomdmnhhaoaaGreatDoor.Sr (Sl slV)

variable {w w0 w' w'' w1 : World} {gp o : Nat} {x0 x x1 x2 : Sl} {v c : Nat × Nat} {s : ByteArray}
/-- A value in a block of its own. -/
theorem box (hC : CS w gp o x) {cs : List Value} (hl : cs.length = 5) : PS gp o x w x (w.alloc (.cells cs.toArray tV (0, 0))) (w.heap.size, 0) cs := by
  have k : Kp Off w (w.alloc (.cells cs.toArray tV (0, 0))) := (Kp.refl Off w).alloc _
  have hb := Blk.new w cs tV
  have hz : (w.alloc (.cells cs.toArray tV (0, 0))).heap.size = w.heap.size + 1 := by simp
  refine ⟨hC.off k, fun j u hj => ?_, hl, Adv.grow x k.size, Kc.of (Kp.off k), fun y hy => ⟨fun c => ?_, ?_, fun a ha c => ?_⟩, ?_⟩
  · show World.cell? _ ⟨w.heap.size, 0 + j, none⟩ = _ ∧ World.frozen? _ ⟨w.heap.size, 0 + j, none⟩ = _
    rw [Nat.zero_add]
    exact ⟨(hb.cell j).trans hj, hb.free j⟩
  · have h1 : y.1 = w.heap.size := hy.1
    have := c.1
    omega
  · have h1 : y.1 = w.heap.size := hy.1
    omega
  · have h1 : y.1 = w.heap.size := hy.1
    have := (hC.ne a ha).2
    omega
  · have := hC.lt
    show w.heap.size ≠ gp
    omega
theorem word_ext {u : ByteArray} {b : Nat} (h : wordB s b u = true) : b + u.size ≤ s.size ∧ (sfx s b).extract 0 u.size = u := by
  have hz := wordB_lt h
  simp only [wordB, Bool.and_eq_true] at h
  refine ⟨hz, ?_⟩
  rw [sub_sfx, show min (b + u.size) s.size = b + u.size by omega]
  exact strEq_iff.1 h.2
theorem PS.post {k b e : Nat} (h : PS gp o x w x1 w' v (vc (none, 0, 0) false (none, 0, 0) (rawS s k b e) (kindN k))) (hn : x1.2.1 ≤ x.2.1 + 1) (hbe : b < e) : PvPost s (.mk k b e [] []) gp o x w (.returned (.tuple #[ptrV v, .string (sfx s e), .nilIface])) w' :=
  ⟨x1, v, rfl, h.cache, h.adv, h.keep, h.vat, by show x1.2.1 ≤ x.2.1 + (e - b); omega⟩
theorem val_step {N : Nat} (hs : s.size ≤ 100000) (ih : PV s N) : PV s (N + 1) := by
  rintro ⟨k, b, e, ns, ks⟩ w x d gp o hN hw hd3 hC hx hlv
  have hw0 := hw
  have hlvk : d + 1 + lvL ks ≤ 300 := by unfold lv at hlv; omega
  have hs62 : s.size < 4611686018427387904 := by omega
  have hst := start_byte hw
  have hst : St (bt s (b : Int)) := hst
  have hN : e - b < N + 1 := hN
  have hx : x.2.1 + (e - b) ≤ 100000 := hx
  have hd3 : k = 3 → isN (bt s (e : Int)) = false := hd3
  unfold WfV at hw
  obtain ⟨hbe, hes, hw⟩ := hw
  have hz := sfx_size s b
  show Calls Tryz.prog 27 #[.pointer (some ⟨gp, o, none⟩), .string (sfx s b), .int .i64 d] w (PvPost s (.mk k b e ns ks) gp o x w)
  refine fastjson_cache_parseValue.calls _ _ _ ?_
  unfold fastjson_cache_parseValue.t
  have ew : IntKind.wrap IntKind.i64 ((d : Int) + (1 : Int)) = ((d + 1 : Nat) : Int) := by rw [wrap_in (by omega) (by omega)]; omega
  rw [ew, sfx_bt0, Int.toNat_natCast]
  refine s_iteE (fun g => by omega) (fun _ => s_iteD (fun g => by omega) (fun _ => s_chk (by omega) ?_))
  have alen : ∀ {i : Nat}, (sfx s b).extract i (sfx s b).size = sfx s (b + i) := fun {i} => sfx_sfx s b i
  rw [alen]
  rcases hw with ⟨rfl, rfl, hL⟩ | ⟨rfl, rfl, rfl, h34, hE⟩ | ⟨rfl, rfl, h91, hE⟩ | ⟨rfl, h123, hE⟩
  · rcases hL.2 with ⟨rfl, hok, hnum⟩ | ⟨rfl, hwd, rfl⟩ | ⟨rfl, hwd, rfl⟩ | ⟨rfl, hwd, rfl⟩
    · -- a number
      have hb : bt s (b : Int) = 45 ∨ (48 ≤ bt s (b : Int) ∧ bt s (b : Int) ≤ 57) := by
        have hok' := hok
        simp only [numOk, Bool.or_eq_true, beq_iff_eq] at hok'
        rcases hok' with h | h
        · exact .inl h
        · exact .inr (isDig_iff.1 h)
      refine s_iteE (fun g => by omega) (fun _ => s_chk (by omega) (s_iteE (fun g => by omega) (fun _ => s_chk (by omega) (s_iteE (fun g => by omega) (fun _ => s_chk (by omega) (s_iteE (fun g => by omega) (fun _ => s_chk (by omega) (s_iteE (fun g => by omega) (fun _ => s_chk (by omega) (s_iteE (fun g => by omega) (fun _ => ?_)))))))))))
      refine s_call (rawNumber_any hs62 (by omega) hnum hok (hd3 rfl)) ?_
      rintro en w1 ⟨rfl, k1⟩
      refine ⟨(s.extract b e, sfx s e, .nilIface, ()), rfl, s_chk rfl (sat_iteF.2 ?_)⟩
      refine s_call (getValue_any (hC.off k1) (by omega)) ?_
      intro en w2 hG
      obtain ⟨x1, v, rfl, hx1, P1⟩ := PS.of hG
      refine ⟨some ⟨v.1, v.2, none⟩, rfl, s_ptr (s_store (P1.at_ (j := 4) rfl).1 (P1.at_ (j := 4) rfl).2 ?_)⟩
      rw [addr_add]
      have P2 := P1.put (i := 4) (by decide) (.int .i64 4)
      generalize w2.setCell ⟨v.1, v.2 + 4, none⟩ (.int .i64 4) = w3 at P2
      refine s_ptr (s_store (P2.at_ (j := 3) rfl).1 (P2.at_ (j := 3) rfl).2 (s_leaf ⟨rfl, ?_⟩))
      rw [addr_add]
      have P3 := P2.put (i := 3) (by decide) (.string (s.extract b e))
      exact (PS.post (k := 3) (b := b) (e := e) P3 (by omega) hbe).pre k1
    · have hb : bt s (b : Int) = 110 := by
        have := wordB_at hwd 0 (by decide)
        exact this
      obtain ⟨hwz, hwe⟩ := word_ext hwd
      have hwz : b + 4 ≤ s.size := hwz
      refine s_iteE (fun g => by omega) (fun _ => s_chk (by omega) (s_iteE (fun g => by omega) (fun _ => s_chk (by omega) (s_iteE (fun g => by omega) (fun _ => s_chk (by omega) (s_iteE (fun g => by omega) (fun _ => s_chk (by omega) (s_iteE (fun g => by omega) (fun _ => s_chk (by omega) (s_iteE (fun _ => ?_) (fun g => by omega)))))))))))
      refine s_cut (fun y w' => y = (false, ()) ∧ w' = w) (s_iteD (fun g => by omega) (fun _ => s_chk (by omega) (s_leaf ?_))) ?_
      · rw [if_pos rfl]
        refine ⟨(false, ()), ?_, rfl, rfl⟩
        have hwe : (sfx s b).extract 0 4 = nullW := hwe
        show [Value.bool (!strEq ((sfx s b).extract 0 4) nullW)] = [Value.bool false]
        rw [strEq_iff.2 hwe]; rfl
      rintro y w1 ⟨rfl, rfl⟩
      show sat _ (fastjson_cache_parseValue.t3 (some ⟨gp, o, none⟩) (sfx s b) false) _ _
      unfold fastjson_cache_parseValue.t3
      refine sat_iteF.2 (s_drew (s_chk (by omega) (Nt.s_hereN (s_alloc ⟨((Kp.refl Off w1.drew).alloc _).belowOff, s_leaf ⟨rfl, ?_⟩⟩))))
      rw [Int.toNat_natCast, sfx_sfx]
      have kd : Kp Off w1 w1.drew := (Kp.refl Off w1).drew
      have P := box (w := w1.drew) (hC.off kd) (cs := vc (none, 0, 0) false (none, 0, 0) (ByteArray.mk #[]) 0) rfl
      exact (PS.post (k := 0) (b := b) P (Nat.le_succ _) hbe).pre kd
    · have hb : bt s (b : Int) = 102 := by
        have := wordB_at hwd 0 (by decide)
        exact this
      obtain ⟨hwz, hwe⟩ := word_ext hwd
      have hwz : b + 5 ≤ s.size := hwz
      refine s_iteE (fun g => by omega) (fun _ => s_chk (by omega) (s_iteE (fun g => by omega) (fun _ => s_chk (by omega) (s_iteE (fun g => by omega) (fun _ => s_chk (by omega) (s_iteE (fun g => by omega) (fun _ => s_chk (by omega) (s_iteE (fun _ => ?_) (fun g => by omega)))))))))
      refine s_cut (fun y w' => y = (false, ()) ∧ w' = w) (s_iteD (fun g => by omega) (fun _ => s_chk (by omega) (s_leaf ?_))) ?_
      · rw [if_pos rfl]
        refine ⟨(false, ()), ?_, rfl, rfl⟩
        have hwe : (sfx s b).extract 0 5 = falseW := hwe
        show [Value.bool (!strEq ((sfx s b).extract 0 5) falseW)] = [Value.bool false]
        rw [strEq_iff.2 hwe]; rfl
      rintro y w1 ⟨rfl, rfl⟩
      show sat _ (fastjson_cache_parseValue.t2 (sfx s b) false) _ _
      unfold fastjson_cache_parseValue.t2
      refine sat_iteF.2 (s_drew (s_chk (by omega) (Nt.s_hereN (s_alloc ⟨((Kp.refl Off w1.drew).alloc _).belowOff, s_leaf ⟨rfl, ?_⟩⟩))))
      rw [Int.toNat_natCast, sfx_sfx]
      have kd : Kp Off w1 w1.drew := (Kp.refl Off w1).drew
      have P := box (w := w1.drew) (hC.off kd) (cs := vc (none, 0, 0) false (none, 0, 0) (ByteArray.mk #[]) 6) rfl
      exact (PS.post (k := 1) (b := b) P (Nat.le_succ _) hbe).pre kd
    · have hb : bt s (b : Int) = 116 := by
        have := wordB_at hwd 0 (by decide)
        exact this
      obtain ⟨hwz, hwe⟩ := word_ext hwd
      have hwz : b + 4 ≤ s.size := hwz
      refine s_iteE (fun g => by omega) (fun _ => s_chk (by omega) (s_iteE (fun g => by omega) (fun _ => s_chk (by omega) (s_iteE (fun g => by omega) (fun _ => s_chk (by omega) (s_iteE (fun _ => ?_) (fun g => by omega)))))))
      refine s_cut (fun y w' => y = (false, ()) ∧ w' = w) (s_iteD (fun g => by omega) (fun _ => s_chk (by omega) (s_leaf ?_))) ?_
      · rw [if_pos rfl]
        refine ⟨(false, ()), ?_, rfl, rfl⟩
        have hwe : (sfx s b).extract 0 4 = trueW := hwe
        show [Value.bool (!strEq ((sfx s b).extract 0 4) trueW)] = [Value.bool false]
        rw [strEq_iff.2 hwe]; rfl
      rintro y w1 ⟨rfl, rfl⟩
      show sat _ (fastjson_cache_parseValue.t1 (sfx s b) false) _ _
      unfold fastjson_cache_parseValue.t1
      refine sat_iteF.2 (s_drew (s_chk (by omega) (Nt.s_hereN (s_alloc ⟨((Kp.refl Off w1.drew).alloc _).belowOff, s_leaf ⟨rfl, ?_⟩⟩))))
      rw [Int.toNat_natCast, sfx_sfx]
      have kd : Kp Off w1 w1.drew := (Kp.refl Off w1).drew
      have P := box (w := w1.drew) (hC.off kd) (cs := vc (none, 0, 0) false (none, 0, 0) (ByteArray.mk #[]) 5) rfl
      exact (PS.post (k := 2) (b := b) P (Nat.le_succ _) hbe).pre kd
  · -- a string
    refine s_iteE (fun g => by omega) (fun _ => s_chk (by omega) (s_iteE (fun g => by omega) (fun _ => s_chk (by omega) (s_iteE (fun _ => ?_) (fun g => by omega)))))
    obtain ⟨k, hk, hQ⟩ := strE_QE hE
    refine s_chk (by omega) (s_call (rawString_any hs62 hQ) ?_)
    rintro en w1 ⟨rfl, k1⟩
    rw [← hk]
    refine ⟨(s.extract (b + 1) (b + 1 + k), sfx s e, .nilIface, ()), rfl, s_chk rfl (sat_iteF.2 ?_)⟩
    refine s_call (getValue_any (hC.off k1) (by omega)) ?_
    intro en w2 hG
    obtain ⟨x1, v, rfl, hx1, P1⟩ := PS.of hG
    refine ⟨some ⟨v.1, v.2, none⟩, rfl, s_ptr (s_store (P1.at_ (j := 4) rfl).1 (P1.at_ (j := 4) rfl).2 ?_)⟩
    rw [addr_add]
    have P2 := P1.put (i := 4) (by decide) (.int .i64 7)
    generalize w2.setCell ⟨v.1, v.2 + 4, none⟩ (.int .i64 7) = w3 at P2
    refine s_ptr (s_store (P2.at_ (j := 3) rfl).1 (P2.at_ (j := 3) rfl).2 (s_leaf ⟨rfl, ?_⟩))
    rw [addr_add]
    have P3 := P2.put (i := 3) (by decide) (.string (s.extract (b + 1) (b + 1 + k)))
    have he : s.extract (b + 1) (b + 1 + k) = s.extract (b + 1) (e - 1) := by rw [hk]; rfl
    generalize w3.setCell ⟨v.1, v.2 + 3, none⟩ (.string (s.extract (b + 1) (b + 1 + k))) = w4 at P3
    rw [he] at P3
    exact (PS.post (k := 4) (b := b) (e := e) P3 (by omega) hbe).pre k1
  · -- an array
    refine s_iteE (fun g => by omega) (fun _ => s_chk (by omega) (s_iteE (fun _ => ?_) (fun g => by omega)))
    refine s_chk (by omega) (s_call (arr_any (d := d + 1) hs ih hw0 (by omega) hC hx (by omega)) ?_)
    rintro en w1 ⟨x1, v, rfl, r⟩
    exact ⟨(some ⟨v.1, v.2, none⟩, sfx s e, .nilIface, ()), rfl, s_chk rfl (sat_iteF.2 (s_leaf ⟨rfl, x1, v, rfl, r⟩))⟩
  · -- an object
    refine s_iteE (fun _ => ?_) (fun g => by omega)
    refine s_chk (by omega) (s_call (obj_any (d := d + 1) hs ih hw0 (by omega) hC hx (by omega)) ?_)
    rintro en w1 ⟨x1, v, rfl, r⟩
    exact ⟨(some ⟨v.1, v.2, none⟩, sfx s e, .nilIface, ()), rfl, s_chk rfl (sat_iteF.2 (s_leaf ⟨rfl, x1, v, rfl, r⟩))⟩
/-- parseValue of any value. -/
theorem val_all (hs : s.size ≤ 100000) : ∀ N, PV s N
  | 0 => fun _ _ _ _ _ _ h => absurd h (Nat.not_lt_zero _)
  | N + 1 => val_step hs (val_all hs N)
end Go.Proofs.YtkpnomdmnhhaoaaGreatDoor.Zv
