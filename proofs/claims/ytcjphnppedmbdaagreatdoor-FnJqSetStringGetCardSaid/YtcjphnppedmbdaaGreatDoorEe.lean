/- jsonparser's Escape. No statement of the set is proved here. -/
import Derived.Test.YtcjphnppedmbdaaGreatDoorEc
import Derived.Test.YtcjphnppedmbdaaGreatDoorEd
import Derived.Test.YtcjphnppedmbdaaGreatDoorTb
namespace Go.Proofs.YtcjphnppedmbdaaGreatDoor.Ed
open Go Go.Proofs Go.RowKit Go.Proofs.YtcjphnppedmbdaaGreatDoor.Rx Go.Proofs.YtcjphnppedmbdaaGreatDoor.Tr Go.Proofs.YtcjphnppedmbdaaGreatDoor.Pl Go.Proofs.YtcjphnppedmbdaaGreatDoor.Pw Go.Proofs.YtcjphnppedmbdaaGreatDoor.Ut Go.Proofs.YtcjphnppedmbdaaGreatDoor.Bw Go.Proofs.YtcjphnppedmbdaaGreatDoor.Uq Go.Proofs.YtcjphnppedmbdaaGreatDoor.Ql
open Go.Proofs.YtcjphnppedmbdaaGreatDoor.Sr (Sl slV tB tBs)

theorem fdiv16 : ∀ n : Nat, n < 32 → Int.fdiv (n : Int) 16 = ((n / 16 : Nat) : Int) := by decide
theorem and15 : ∀ n : Nat, n < 32 → IntKind.wrap IntKind.u8 (((BitVec.toNat ((BitVec.ofInt 8 (n : Int)) &&& (BitVec.ofInt 8 (15 : Int)))) : Nat) : Int) = ((n % 16 : Nat) : Int) := by decide
def lowB : ByteArray := ByteArray.mk #[(48 : UInt8), (49 : UInt8), (50 : UInt8), (51 : UInt8), (52 : UInt8), (53 : UInt8), (54 : UInt8), (55 : UInt8), (56 : UInt8), (57 : UInt8), (97 : UInt8), (98 : UInt8), (99 : UInt8), (100 : UInt8), (101 : UInt8), (102 : UInt8)]
theorem lowB_at : ∀ n : Nat, n < 16 → bt lowB (n : Int) = ((hxd n).toNat : Int) := by decide
theorem take_on {s : ByteArray} {i j : Nat} (hj : j ≤ i) (hi : i < s.size) : (tl s j).take (i + 1 - j) = (tl s j).take (i - j) ++ [gb s i] := by
  have h := tl_on hi
  have e : tl s i = (tl s j).drop (i - j) := by
    show s.data.toList.drop i = (s.data.toList.drop j).drop (i - j)
    rw [List.drop_drop, Nat.add_sub_cancel' hj]
  rw [e] at h
  rw [show i + 1 - j = (i - j) + 1 by omega, List.take_add_one]
  congr 1
  have := congrArg (fun l => l[0]?) h
  simp only [List.getElem?_drop, Nat.add_zero, List.getElem?_cons_zero] at this
  rw [this]; rfl
theorem escape_any {s : ByteArray} {w : World} (hs : s.size ≤ 100000) : Calls Tryz.prog 67 #[.string s] w fun e w' => ∃ x, e = .returned (slV x) ∧ RB w' w.heap.size x (34 :: es s.data.toList ++ [34]) ∧ Kp Off w w' := by
  refine jsonparser_Escape.calls _ ?_
  unfold jsonparser_Escape.t
  refine s_alloc ?_
  have hw1 : ∃ w1, w.alloc (.cells (Je.cb (List.replicate 64 0)).toArray 130 (0, 0)) = w1 := ⟨_, rfl⟩
  obtain ⟨w1, hw1⟩ := hw1
  obtain ⟨b1, k1, z1⟩ := Je.new_blk hw1
  show sat _ _ _ (w.alloc (.cells (Je.cb (List.replicate 64 0)).toArray 130 (0, 0)))
  have hh : w1.heap[w.heap.size]? = some (.cells (Je.cb (List.replicate 64 0)).toArray 130 (0, 0)) := by rw [← hw1]; exact heap_alloc_new w _
  rw [hw1]
  have hsl : (Instr.sliceAt 130 (.pointer (some ⟨w.heap.size, 0, none⟩)) none (some (.int .i64 0)) none).run Tryz.prog w1 = .ok (.slice (some ⟨w.heap.size, 0, none⟩) 0 64) w1 := by kernel_rfl
  refine s_eff (some ⟨w.heap.size, 0, none⟩, 0, 64) hsl ?_
  have hB0 : RB w1 w.heap.size (some ⟨w.heap.size, 0, none⟩, 0, 64) [] := by
    refine ⟨by omega, w.heap.size, 64, rfl, Nat.le_refl _, by omega, Nat.zero_le _, fun j u hj => by simp at hj, fun j hj => ?_⟩
    have hz : (Je.cb (List.replicate 64 0)).toArray.size = 64 := rfl
    simp only [World.cell?, World.frozen?, hh]
    rw [Array.getElem?_eq_getElem (by omega)]
    exact ⟨rfl, rfl⟩
  have fr : ∀ {w1 w2 : World}, Kp Off w w1 → Kp (fun q => w.heap.size ≤ q) w1 w2 → Kp Off w w2 := fun k1 k2 => kp_then k1 k2 fun i hi ho => by omega
  generalize hx0 : ((some ⟨w.heap.size, 0, none⟩, 0, 64) : Sl) = x0 at hB0
  refine s_putB hB0 [34] (by simp) rfl rfl rfl (by simp) (by simp) fun z2 w2 hB2 k2 => ?_
  refine s_loop (fun n x w' => ∃ (i j : Nat) (z : Sl) (l : List UInt8), n = s.size - i ∧ x = ((i : Int), (j : Int), z, ()) ∧ j ≤ i ∧ i ≤ s.size ∧ l ++ (tl s j).take (i - j) = es (s.data.toList.take i) ∧ RB w' w.heap.size z (34 :: l) ∧ Kp Off w w') s.size ((0 : Int), (0 : Int), z2, ()) rfl
    ⟨0, 0, z2, [], rfl, rfl, Nat.le_refl _, Nat.zero_le _, rfl, hB2, fr k1 k2⟩ ?_
  rintro n x w3 ⟨i, j, z, l, rfl, rfl, hji, hile, hl, hB, k3⟩
  have hsz : s.data.toList.length = s.size := by rw [Array.length_toList]; rfl
  have hll : l.length ≤ 6 * s.size := by
    have h1 := congrArg List.length hl
    have h2 := es_len (s.data.toList.take i)
    rw [List.length_append] at h1
    rw [List.length_take] at h2
    omega
  show sat _ (jsonparser_Escape.t1 s (i : Int) (j : Int) z) _ _
  unfold jsonparser_Escape.t1
  refine s_iteD (fun h => ?_) (fun h => ?_)
  rotate_left
  · have e : i = s.size := by omega
    subst e
    refine s_chk ⟨by omega, by omega, by omega⟩ ?_
    have eex : ByteArray.extract s (Int.toNat (j : Int)) (Int.toNat (((ByteArray.size s) : Nat) : Int)) = s.extract j (j + (s.size - j)) := by
      rw [Int.toNat_natCast, Int.toNat_natCast, Nat.add_sub_cancel' (by omega)]
    rw [eex]
    refine s_putT hB (by have : (s.extract j (j + (s.size - j))).size = s.size - j := by rw [ByteArray.size_extract]; omega
                         simp only [List.length_cons]; omega) rfl fun z4 w4 hB4 k4 => ?_
    rw [extract_tl, List.cons_append, hl, List.take_of_length_le (by omega)] at hB4
    refine s_putB hB4 [34] (by have := es_len s.data.toList; simp only [List.length_cons, List.length_nil]; omega) rfl rfl rfl (by simp) (by simp) fun z5 w5 hB5 k5 => s_leaf ?_
    rw [if_neg (by decide)]
    exact ⟨rfl, z5, rfl, hB5, fr (fr k3 k4) k5⟩
  have hlt : i < s.size := by omega
  have w1i : IntKind.wrap IntKind.i64 ((i : Int) + (1 : Int)) = ((i + 1 : Nat) : Int) := by rw [wrap_in (by omega) (by omega)]; omega
  have htk : s.data.toList.take (i + 1) = s.data.toList.take i ++ [gb s i] := by
    have := take_on (s := s) (j := 0) (Nat.zero_le _) hlt
    exact this
  have hbn : bt s (i : Int) = ((bn s i : Nat) : Int) := bt_bn s i
  have hgb := gb_bn s i
  refine s_chk ⟨by omega, by omega⟩ ?_
  refine s_cut (fun x w' => x = (decide (32 ≤ bn s i ∧ bn s i ≠ 34 ∧ bn s i ≠ 92), ()) ∧ w3 = w') (s_iteD (fun g => s_iteN (fun g2 => s_leaf ?_) (fun g2 => s_leaf ?_)) (fun g => s_leaf ?_)) ?_
  · rw [if_pos rfl]
    refine ⟨(bt s (i : Int) != 92, ()), rfl, bpair ?_, rfl⟩
    simp only [bne_iff_ne, decide_eq_true_eq]; omega
  · rw [if_pos rfl]
    refine ⟨(false, ()), rfl, ?_, rfl⟩
    rw [decide_eq_false (by omega)]; rfl
  · rw [if_pos rfl]
    refine ⟨(false, ()), rfl, ?_, rfl⟩
    rw [decide_eq_false (by omega)]; rfl
  rintro x w3' ⟨rfl, rfl⟩
  show sat _ (jsonparser_Escape.t2 s (i : Int) (j : Int) z (decide (32 ≤ bn s i ∧ bn s i ≠ 34 ∧ bn s i ≠ 92))) _ _
  unfold jsonparser_Escape.t2
  refine s_iteD (fun g => s_leaf ?_) (fun g => ?_)
  · rw [if_pos rfl, w1i]
    refine ⟨s.size - (i + 1), (((i + 1 : Nat) : Int), (j : Int), z, ()), rfl, by omega, i + 1, j, z, l, rfl, rfl, by omega, by omega, ?_, hB, k3⟩
    have e1 : es [gb s i] = [gb s i] := by
      show eb (gb s i) ++ [] = _
      rw [eb_plain (by omega) (by omega) (by omega)]; rfl
    rw [take_on hji hlt, htk, es_app, ← List.append_assoc, hl, e1]
  refine s_chk ⟨by omega, by omega, by omega⟩ ?_
  have eex : ByteArray.extract s (Int.toNat (j : Int)) (Int.toNat (i : Int)) = s.extract j (j + (i - j)) := by
    rw [Int.toNat_natCast, Int.toNat_natCast, Nat.add_sub_cancel' (by omega)]
  rw [eex]
  refine s_putT hB (by have : (s.extract j (j + (i - j))).size = i - j := by rw [ByteArray.size_extract]; omega
                       simp only [List.length_cons]; omega) rfl fun z4 w4 hB4 k4 => ?_
  rw [extract_tl, List.cons_append, hl] at hB4
  have k34 := fr k3 k4
  refine s_cut (fun x w' => x = (decide (bn s i = 34 ∨ bn s i = 92), z4, ()) ∧ w4 = w') (s_iteE (fun g => s_leaf ?_) (fun g => s_leaf ?_)) ?_
  · rw [if_pos rfl]
    refine ⟨(bt s (i : Int) == 34, z4, ()), rfl, ?_, rfl⟩
    rw [decide_eq_true (by omega), beq_iff_eq.2 g]; rfl
  · rw [if_pos rfl]
    refine ⟨(bt s (i : Int) == 92, z4, ()), rfl, ?_, rfl⟩
    by_cases g2 : bn s i = 92
    · rw [decide_eq_true (by omega), beq_iff_eq.2 (by omega)]; rfl
    · rw [decide_eq_false (by omega), beq_eq_false_iff_ne.2 (by omega)]; rfl
  rintro x w4' ⟨rfl, rfl⟩
  show sat _ (jsonparser_Escape.t3 s (i : Int) (decide (bn s i = 34 ∨ bn s i = 92)) z4) _ _
  unfold jsonparser_Escape.t3
  have hlen : (34 :: es (s.data.toList.take i)).length ≤ 1000000 := by
    have h2 := es_len (s.data.toList.take i)
    rw [List.length_take] at h2
    simp only [List.length_cons]; omega
  refine s_cut (fun x w' => RB w' w.heap.size x.2.1 (34 :: es (s.data.toList.take i) ++ eb (gb s i)) ∧ Kp Off w w') ?_ ?_
  rotate_left
  · rintro ⟨b', z5, u⟩ w5 ⟨hB5, k5⟩
    show sat _ (jsonparser_Escape.t4 (i : Int) z5) _ _
    unfold jsonparser_Escape.t4
    refine s_leaf ?_
    rw [if_pos rfl, w1i]
    refine ⟨s.size - (i + 1), (((i + 1 : Nat) : Int), ((i + 1 : Nat) : Int), z5, ()), rfl, by omega, i + 1, i + 1, z5, es (s.data.toList.take i) ++ eb (gb s i), rfl, rfl, Nat.le_refl _, by omega, ?_, hB5, k5⟩
    have e1 : es [gb s i] = eb (gb s i) := List.append_nil _
    rw [Nat.sub_self, List.take_zero, List.append_nil, htk, es_app, e1]
  have fin : ∀ (bs : List UInt8) (z5 : Sl) (w5 : World) (b9 : Bool), eb (gb s i) = bs → RB w5 w.heap.size z5 (34 :: es (s.data.toList.take i) ++ bs) → Kp (fun q => w.heap.size ≤ q) w4 w5 →
      ∃ x, [Value.bool b9, .slice z5.1 z5.2.1 z5.2.2] = (Sh.cons .bool (.cons .slice .nil)).vals x ∧ RB w5 w.heap.size x.2.1 (34 :: es (s.data.toList.take i) ++ eb (gb s i)) ∧ Kp Off w w5 := fun bs z5 w5 b9 h1 h2 h3 => ⟨(b9, z5, ()), rfl, by rw [h1]; exact h2, fr k34 h3⟩
  have ebd : eb (gb s i) = if bn s i = 34 ∨ bn s i = 92 then [92, gb s i] else if bn s i = 8 then [92, 98] else if bn s i = 12 then [92, 102] else if bn s i = 10 then [92, 110] else if bn s i = 13 then [92, 114] else if bn s i = 9 then [92, 116]
      else if bn s i < 32 then [92, 117, 48, 48, hxd (bn s i / 16), hxd (bn s i % 16)] else [gb s i] := rfl
  refine s_iteD (fun c1 => ?_) (fun c1 => ?_)
  · rw [bt_bv]
    refine s_putB hB4 [92, gb s i] (by simp only [List.length_cons, List.length_nil] at hlen ⊢; omega) rfl rfl rfl (by simp) (by simp) fun z5 w5 hB5 k5 => s_leaf ?_
    rw [if_pos rfl]
    exact fin _ z5 w5 _ (by rw [ebd, if_pos c1]) hB5 k5
  rw [if_neg c1] at ebd
  refine s_iteE (fun c2 => ?_) (fun c2 => ?_)
  · refine s_putB hB4 [92, 98] (by simp only [List.length_cons, List.length_nil] at hlen ⊢; omega) rfl rfl rfl (by simp) (by simp) fun z5 w5 hB5 k5 => s_leaf ?_
    rw [if_pos rfl]
    exact fin _ z5 w5 _ (by rw [ebd, if_pos (by omega)]) hB5 k5
  rw [if_neg (by omega)] at ebd
  refine s_iteE (fun c3 => ?_) (fun c3 => ?_)
  · refine s_putB hB4 [92, 102] (by simp only [List.length_cons, List.length_nil] at hlen ⊢; omega) rfl rfl rfl (by simp) (by simp) fun z5 w5 hB5 k5 => s_leaf ?_
    rw [if_pos rfl]
    exact fin _ z5 w5 _ (by rw [ebd, if_pos (by omega)]) hB5 k5
  rw [if_neg (by omega)] at ebd
  refine s_iteE (fun c4 => ?_) (fun c4 => ?_)
  · refine s_putB hB4 [92, 110] (by simp only [List.length_cons, List.length_nil] at hlen ⊢; omega) rfl rfl rfl (by simp) (by simp) fun z5 w5 hB5 k5 => s_leaf ?_
    rw [if_pos rfl]
    exact fin _ z5 w5 _ (by rw [ebd, if_pos (by omega)]) hB5 k5
  rw [if_neg (by omega)] at ebd
  refine s_iteE (fun c5 => ?_) (fun c5 => ?_)
  · refine s_putB hB4 [92, 114] (by simp only [List.length_cons, List.length_nil] at hlen ⊢; omega) rfl rfl rfl (by simp) (by simp) fun z5 w5 hB5 k5 => s_leaf ?_
    rw [if_pos rfl]
    exact fin _ z5 w5 _ (by rw [ebd, if_pos (by omega)]) hB5 k5
  rw [if_neg (by omega)] at ebd
  refine s_iteE (fun c6 => ?_) (fun c6 => ?_)
  · refine s_putB hB4 [92, 116] (by simp only [List.length_cons, List.length_nil] at hlen ⊢; omega) rfl rfl rfl (by simp) (by simp) fun z5 w5 hB5 k5 => s_leaf ?_
    rw [if_pos rfl]
    exact fin _ z5 w5 _ (by rw [ebd, if_pos (by omega)]) hB5 k5
  have h32 : bn s i < 32 := by omega
  rw [if_neg (by omega), if_pos h32] at ebd
  refine s_drew ?_
  rw [hbn, fdiv16 _ h32, and15 _ h32]
  refine s_chk (by omega) (s_chk (by omega) (s_chk (by omega) ?_))
  show sat _ (.eff (Instr.buildSlice tBs 6 #[(0, (Value.int IntKind.u8 (92 : Int))), (1, (Value.int IntKind.u8 (117 : Int))), (2, (Value.int IntKind.u8 (48 : Int))), (3, (Value.int IntKind.u8 (48 : Int))), (4, (Value.int IntKind.u8 (bt lowB ((bn s i / 16 : Nat) : Int)))), (5, (Value.int IntKind.u8 (bt lowB ((bn s i % 16 : Nat) : Int))))]) .slice _) _ _
  rw [lowB_at _ (by omega), lowB_at _ (by omega)]
  have kd : Kp Off w4 w4.drew := (Kp.refl _ w4).drew
  have hBd : RB w4.drew w.heap.size z4 (34 :: es (s.data.toList.take i)) := by
    obtain ⟨g, cap, a1, a2, a3, a4, a5, a6⟩ := hB4.row
    exact ⟨hB4.lt, g, cap, a1, a2, a3, a4, a5, a6⟩
  refine s_putB hBd [92, 117, 48, 48, hxd (bn s i / 16), hxd (bn s i % 16)] (by simp only [List.length_cons, List.length_nil] at hlen ⊢; omega) rfl rfl rfl (by simp) (by simp) fun z5 w5 hB5 k5 => s_leaf ?_
  rw [if_pos rfl]
  exact fin _ z5 w5 _ ebd hB5 (((Kp.refl _ w4).drew).trans k5)
end Go.Proofs.YtcjphnppedmbdaaGreatDoor.Ed
