/- gjson.unescape of a safe text: its walk. No statement of the set is proved here. -/
import Derived.Test.YtbmmpnjpejamaaaDoorGu
import Derived.Test.YtbmmpnjpejamaaaDoorEv
namespace Go.Proofs.YtbmmpnjpejamaaaDoor.Gu
open Go Go.Proofs Go.RowKit Go.Proofs.YtbmmpnjpejamaaaDoor.Rx Go.Proofs.YtbmmpnjpejamaaaDoor.Tr Go.Proofs.YtbmmpnjpejamaaaDoor.Pl Go.Proofs.YtbmmpnjpejamaaaDoor.Ut Go.Proofs.YtbmmpnjpejamaaaDoor.Bw Go.Proofs.YtbmmpnjpejamaaaDoor.Uq Go.Proofs.YtbmmpnjpejamaaaDoor.Ql Go.Proofs.YtbmmpnjpejamaaaDoor.Gq Go.Proofs.YtbmmpnjpejamaaaDoor.Ch
open Go.Proofs.YtbmmpnjpejamaaaDoor.Sr (slV tBs tB)

theorem hx_same {o s' : ByteArray} {q : Nat} (h : ∀ k, k < 4 → s'.data.toList.getD k 0 = gb o (q + k)) : ∀ j, j ≤ 4 → Hp.hx s' j = Uq.hx o q j
  | 0, _ => rfl
  | j + 1, hj => by
    unfold Hp.hx Uq.hx
    rw [hx_same h j (by omega), h j (by omega)]
    rfl
theorem ext_gb {o : ByteArray} {q : Nat} (hq : q + 4 ≤ o.size) : ∀ k, k < 4 → ((o.extract q o.size).extract 0 4).data.toList.getD k 0 = gb o (q + k) := fun k hk => by
  have e : ((o.extract q o.size).extract 0 4) = o.extract q (q + 4) := by
    ext1
    simp only [ByteArray.data_extract, Array.extract_extract]
    congr 1
    omega
  rw [e]
  have h1 := extract_tl o q 4
  rw [h1]
  rw [List.getD_eq_getElem?_getD, List.getElem?_take_of_lt hk]
  show ((o.data.toList.drop q)[k]?).getD 0 = o.data.toList.getD (q + k) 0
  rw [List.getElem?_drop, List.getD_eq_getElem?_getD]
theorem unescape_any {o : ByteArray} {r : List UInt8} {w : World} (hs : o.size ≤ 100000) (hsf : sf o 0 = true) (hr : uo o 0 = some r) :
    Calls Tryd.prog 53 #[.string o] w fun e w' => e = .returned (.string ⟨r.toArray⟩) ∧ Kp Off w w' := by
  refine gjson_unescape.calls _ ?_
  unfold gjson_unescape.t
  obtain ⟨w1, h1, h2, h3⟩ := run_make_own (P := Tryd.prog) w w.heap.size tBs tB _ (.int .u8 0) 1 Tryd.underlying48 (info_some (by kernel_rfl)) (by kernel_rfl) (by kernel_rfl) .i64 .i64 o.size (by
    rw [show ((Tryd.prog.info? tB).get (by kernel_rfl)).bytes = 1 from by kernel_rfl]; omega) (by simp only [maxLen]; omega) (Nat.le_refl _)
  refine s_eff (some ⟨w.heap.size, 0, none⟩, 0, o.size) h1 ?_
  have hB0 : BR w1 w.heap.size (some ⟨w.heap.size, 0, none⟩, 0, o.size) [] := h2
  have k0 : Kp Off w w1 := (Kp.of_grown h3).mono fun k _ h => by simp at h
  refine s_loop (fun n x w' => ∃ (p : Nat) (z : Sr.Sl) (l t : List UInt8), n = o.size - p ∧ x = (z, (p : Int), ()) ∧ p ≤ o.size ∧ l.length ≤ 4 * p ∧ sf o p = true ∧ uo o p = some t ∧ l ++ t = r ∧ BR w' w.heap.size z l ∧ Kp Off w w') o.size ((some ⟨w.heap.size, 0, none⟩, 0, o.size), (0 : Int), ()) rfl
    ⟨0, _, [], r, rfl, rfl, Nat.zero_le _, Nat.le_refl _, hsf, hr, rfl, hB0, k0⟩ ?_
  rintro n x w2 ⟨p, z, l, t, rfl, rfl, hp, hl, hf, ht, hlt, hB, k2⟩
  simp only [gjson_unescape.t1]
  have frame : ∀ {w3 : World}, Kp (Own z) w2 w3 → Kp Off w w3 := fun k => kp_then k2 k fun i hi ho => by have := (hB.block i ho).1; omega
  refine s_iteD (fun h => ?_) (fun h => ?_)
  rotate_left
  · have e : o.size ≤ p := by omega
    rw [uo_end e] at ht
    cases ht
    rw [List.append_nil] at hlt
    subst hlt
    refine s_eff _ hB.toStr (s_leaf ?_)
    rw [if_neg (by decide)]
    exact ⟨rfl, rfl, k2⟩
  have hpl : p < o.size := by omega
  have hbt : bt o (p : Int) = ((bn o p : Nat) : Int) := bt_bn o p
  have h32 : 32 ≤ bn o p := by
    rcases Nat.lt_or_ge (bn o p) 32 with g | g
    · rw [sf_ctl hpl g] at hf; cases hf
    · exact g
  refine s_chk (by omega) ?_
  refine s_iteD (fun hh => by omega) (fun _ => s_chk (by omega) ?_)
  -- a round's end
  have on : ∀ (q : Nat) (z' : Sr.Sl) (l' t' : List UInt8) (w' : World) (x : Int), x = (q : Int) → p < q → q ≤ o.size → l'.length ≤ 4 * q → sf o q = true → uo o q = some t' → l' ++ t' = r → BR w' w.heap.size z' l' → Kp Off w w' →
      (fun l'' vs w'' => if l'' = 1 then ∃ n' x', vs = (Sh.cons .slice (.cons (.int .i64) .nil)).vals x' ∧ n' < o.size - p ∧ ∃ (p : Nat) (z : Sr.Sl) (l t : List UInt8), n' = o.size - p ∧ x' = (z, (p : Int), ()) ∧ p ≤ o.size ∧ l.length ≤ 4 * p ∧ sf o p = true ∧ uo o p = some t ∧ l ++ t = r ∧ BR w'' w.heap.size z l ∧ Kp Off w w''
        else l'' = 0 ∧ ((Ending.returned (retVal vs)) = .returned (.string ⟨r.toArray⟩) ∧ Kp Off w w'')) 1 [.slice z'.1 z'.2.1 z'.2.2, .int .i64 x] w' := by
    intro q z' l' t' w' x hx g1 g2 g3 g4 g5 g6 g7 g8
    subst hx
    show if (1 : Nat) = 1 then _ else _
    rw [if_pos rfl]
    exact ⟨o.size - q, (z', (q : Int), ()), rfl, by omega, q, z', l', t', rfl, rfl, g2, g3, g4, g5, g6, g7, g8⟩
  refine s_iteE (fun h92 => ?_) (fun h92 => s_chk (by omega) ?_)
  rotate_left
  · have hb : bn o p ≠ 92 := by omega
    rw [uo_plain hpl hb] at ht
    obtain ⟨t', h4, rfl⟩ := map_some ht
    rw [bt_bv]
    refine s_put hB [gb o p] k2.size (by simp; omega) rfl rfl rfl (by simp) (by simp) fun z2 w3 hB2 k3 _ => s_leaf ?_
    exact on (p + 1) z2 _ t' w3 _ (wrap_in (by omega) (by omega)) (by omega) hpl (by simp; omega) (by rw [← sf_plain hpl h32 hb]; exact hf) h4 (by rw [← hlt]; simp) hB2 (frame k3)
  have hb : bn o p = 92 := by omega
  have w1i : IntKind.wrap IntKind.i64 ((p : Int) + (1 : Int)) = ((p + 1 : Nat) : Int) := by rw [wrap_in (by omega) (by omega)]; omega
  have w2i : IntKind.wrap IntKind.i64 (((p + 1 : Nat) : Int) + (1 : Int)) = ((p + 2 : Nat) : Int) := by rw [wrap_in (by omega) (by omega)]; omega
  have hbt1 : bt o ((p + 1 : Nat) : Int) = ((bn o (p + 1) : Nat) : Int) := bt_bn o (p + 1)
  rw [w1i, w2i, hbt1]
  have h1 : p + 1 < o.size := by
    rcases Nat.lt_or_ge (p + 1) o.size with g | g
    · exact g
    · have e0 : bt o ((p + 1 : Nat) : Int) = 0 := bt_end g
      have hX : isX (bt o ((p + 1 : Nat) : Int)) = false := by rw [e0]; rfl
      have hu : uN o p = none := by unfold uN; rw [if_neg (by omega)]
      rw [sf_bad hb hX hu] at hf; cases hf
  refine s_iteD (fun hh => by omega) (fun _ => s_chk (by omega) ?_)
  -- a letter
  have letter : ∀ (c d : UInt8) (Q : Nat → List Value → World → Prop) (ats : Array TypeId), ats = #[tBs, tBs] → bn o (p + 1) = c.toNat → isX (c.toNat : Int) = true → sh c = d →
      (∀ (z' : Sr.Sl) (w' : World) (t' : List UInt8), sf o (p + 2) = true → uo o (p + 2) = some t' → (l ++ [d]) ++ t' = r → BR w' w.heap.size z' (l ++ [d]) → Kp Off w w' → Q 1 [.slice z'.1 z'.2.1 z'.2.2, .int .i64 ((p + 2 : Nat) : Int)] w') →
      sat Tryd.prog (.eff (Instr.buildSlice tBs 1 #[(0, bv d)]) .slice fun z5 => .eff (Builtin.append_ ats tBs #[(Value.slice (z).1 ((z).2).1 ((z).2).2), (Value.slice (z5).1 ((z5).2).1 ((z5).2).2)]) .slice fun z6 =>
        .leaf 1 [(Value.slice (z6).1 ((z6).2).1 ((z6).2).2), (Value.int IntKind.i64 ((p + 2 : Nat) : Int))]) Q w2 := by
    intro c d Q ats hats hc hx hd hQ
    have hX : isX (bt o ((p + 1 : Nat) : Int)) = true := by rw [hbt1, hc]; exact hx
    have hne : bn o (p + 1) ≠ 117 := by rw [hc]; intro e; have := isX_iff.1 hx; omega
    have hu : uN o p = none := by unfold uN; rw [if_neg fun h => hne h.2.2]
    rw [uo_short hb hu h1, gb_of hc, hd] at ht
    obtain ⟨t', h4, rfl⟩ := map_some ht
    refine s_put hB [d] k2.size (by simp; omega) hats rfl rfl (by simp) (by simp) fun z2 w3 hB2 k3 _ => s_leaf (hQ z2 w3 t' ?_ h4 ?_ hB2 (frame k3))
    · rw [← sf_short hb hX]; exact hf
    · rw [← hlt]; simp
  refine s_iteE (fun e => letter 92 92 _ _ rfl (by have e : ((bn o (p + 1) : Nat) : Int) = 92 := e; show bn o (p + 1) = 92; omega) (by decide) rfl fun z' w' t' a1 a2 a3 a4 a5 => on (p + 2) z' _ t' w' _ rfl (by omega) h1 (by simp; omega) a1 a2 a3 a4 a5) (fun n1 => ?_)
  refine s_iteE (fun e => letter 47 47 _ _ rfl (by have e : ((bn o (p + 1) : Nat) : Int) = 47 := e; show bn o (p + 1) = 47; omega) (by decide) rfl fun z' w' t' a1 a2 a3 a4 a5 => on (p + 2) z' _ t' w' _ rfl (by omega) h1 (by simp; omega) a1 a2 a3 a4 a5) (fun n2 => ?_)
  refine s_iteE (fun e => letter 98 8 _ _ rfl (by have e : ((bn o (p + 1) : Nat) : Int) = 98 := e; show bn o (p + 1) = 98; omega) (by decide) rfl fun z' w' t' a1 a2 a3 a4 a5 => on (p + 2) z' _ t' w' _ rfl (by omega) h1 (by simp; omega) a1 a2 a3 a4 a5) (fun n3 => ?_)
  refine s_iteE (fun e => letter 102 12 _ _ rfl (by have e : ((bn o (p + 1) : Nat) : Int) = 102 := e; show bn o (p + 1) = 102; omega) (by decide) rfl fun z' w' t' a1 a2 a3 a4 a5 => on (p + 2) z' _ t' w' _ rfl (by omega) h1 (by simp; omega) a1 a2 a3 a4 a5) (fun n4 => ?_)
  refine s_iteE (fun e => letter 110 10 _ _ rfl (by have e : ((bn o (p + 1) : Nat) : Int) = 110 := e; show bn o (p + 1) = 110; omega) (by decide) rfl fun z' w' t' a1 a2 a3 a4 a5 => on (p + 2) z' _ t' w' _ rfl (by omega) h1 (by simp; omega) a1 a2 a3 a4 a5) (fun n5 => ?_)
  refine s_iteE (fun e => letter 114 13 _ _ rfl (by have e : ((bn o (p + 1) : Nat) : Int) = 114 := e; show bn o (p + 1) = 114; omega) (by decide) rfl fun z' w' t' a1 a2 a3 a4 a5 => on (p + 2) z' _ t' w' _ rfl (by omega) h1 (by simp; omega) a1 a2 a3 a4 a5) (fun n6 => ?_)
  refine s_iteE (fun e => letter 116 9 _ _ rfl (by have e : ((bn o (p + 1) : Nat) : Int) = 116 := e; show bn o (p + 1) = 116; omega) (by decide) rfl fun z' w' t' a1 a2 a3 a4 a5 => on (p + 2) z' _ t' w' _ rfl (by omega) h1 (by simp; omega) a1 a2 a3 a4 a5) (fun n7 => ?_)
  refine s_iteE (fun e => letter 34 34 _ _ rfl (by have e : ((bn o (p + 1) : Nat) : Int) = 34 := e; show bn o (p + 1) = 34; omega) (by decide) rfl fun z' w' t' a1 a2 a3 a4 a5 => on (p + 2) z' _ t' w' _ rfl (by omega) h1 (by simp; omega) a1 a2 a3 a4 a5) (fun n8 => ?_)
  have hX : isX (bt o ((p + 1 : Nat) : Int)) = false := by
    cases hx : isX (bt o ((p + 1 : Nat) : Int)) with
    | false => rfl
    | true => have := isX_iff.1 hx; omega
  cases hu : uN o p with
  | none => rw [sf_bad hb hX hu] at hf; cases hf
  | some v =>
  have hnh : ¬ (55296 ≤ v ∧ v ≤ 57343) := fun g => by rw [sf_half hb hX hu g] at hf; cases hf
  have hul := uN_lt hu
  have hhx : Uq.hx o (p + 2) 4 = some v ∧ bn o (p + 1) = 117 := by
    have := hu
    unfold uN at this
    split at this
    · exact ⟨this, (by assumption : p + 6 ≤ o.size ∧ bn o p = 92 ∧ bn o (p + 1) = 117).2.2⟩
    · cases this
  have hbt117 : ((bn o (p + 1) : Nat) : Int) = 117 := by omega
  refine s_iteE (fun _ => ?_) (fun hh => absurd hbt117 hh)
  have w5 : IntKind.wrap IntKind.i64 (((p + 1 : Nat) : Int) + (5 : Int)) = ((p + 6 : Nat) : Int) := by rw [wrap_in (by omega) (by omega)]; omega
  rw [w5]
  refine s_iteD (fun hh => by omega) (fun _ => s_chk (by omega) ?_)
  have ex : ByteArray.extract o (Int.toNat ((p + 2 : Nat) : Int)) (Int.toNat (((ByteArray.size o) : Nat) : Int)) = o.extract (p + 2) o.size := by
    rw [Int.toNat_natCast, Int.toNat_natCast]
  rw [ex]
  have hz : (o.extract (p + 2) o.size).size = o.size - (p + 2) := by rw [ByteArray.size_extract]; omega
  refine s_call (Hp.runeit_any (v := v) (by omega) (by rw [hx_same (ext_gb (by omega)) 4 (Nat.le_refl _)]; exact hhx.1)) ?_
  rintro e w3 ⟨rfl, k3⟩
  refine ⟨(v : Int), rfl, ?_⟩
  refine s_call (R := fun e w' => e = .returned (.bool false) ∧ w' = w3) ?_ ?_
  · refine utf16_IsSurrogate.calls _ ?_
    unfold utf16_IsSurrogate.t
    refine s_iteD (fun g => s_leaf ⟨rfl, ?_, rfl⟩) (fun g => s_leaf ⟨rfl, rfl, rfl⟩)
    have : decide ((v : Int) < 57344) = false := decide_eq_false (by omega)
    show Ending.returned (.bool (decide ((v : Int) < 57344))) = _
    rw [this]
  rintro e w3 ⟨rfl, rfl⟩
  refine ⟨false, rfl, ?_⟩
  refine s_cut (fun x w' => x = (((p + 6 : Nat) : Int), (v : Int), ()) ∧ w3 = w') ?_ ?_
  · refine sat_iteF.2 (s_leaf ?_)
    rw [if_pos rfl]
    exact ⟨(((p + 6 : Nat) : Int), (v : Int), ()), rfl, rfl, rfl⟩
  rintro x w4 ⟨rfl, rfl⟩
  simp only [gjson_unescape.t4]
  have hB3 := hB.kp k3 fun _ _ => id
  have k23 := k2.trans k3
  refine s_put hB3 [0, 0, 0, 0, 0, 0, 0, 0] k23.size (by simp; omega) rfl rfl rfl (by simp) (by simp) fun z5 w5 hB5 k5 _ => ?_
  have k05 : Kp Off w w5 := kp_then k23 k5 fun i hi ho => by have := (hB3.block i ho).1; omega
  obtain ⟨q1, ⟨_, h7⟩ | ⟨g, cap, cur, hz5, hbg, hg, hnc, hm5, hs5, ht5⟩⟩ := id hB5
  · simp at h7
  obtain ⟨a5, n5, c5⟩ := z5
  simp only [slV, Value.slice.injEq] at hz5
  obtain ⟨rfl, rfl, rfl⟩ := hz5
  have hL8 : (l ++ [(0 : UInt8), 0, 0, 0, 0, 0, 0, 0]).length = l.length + 8 := by rw [List.length_append]; rfl
  have hnc8 : l.length + 8 ≤ c5 := by rw [← hL8]; exact hnc
  simp only [hL8]
  have hwl : IntKind.wrap IntKind.i64 ((((l.length + 8 : Nat) : Nat) : Int) - (8 : Int)) = ((l.length : Nat) : Int) := by rw [wrap_in (by omega) (by omega)]; omega
  simp only [hwl]
  refine s_chk (by omega) ?_
  have hcur : cur.toList = l.map bv ++ (Je.cb [0, 0, 0, 0, 0, 0, 0, 0] ++ cur.toList.drop (l.length + 8)) := by
    have e := List.take_append_drop (l.length + 8) cur.toList
    have ht := ht5
    rw [hL8, Nat.mul_one] at ht
    rw [ht, List.map_append, List.append_assoc] at e
    exact e.symm
  generalize hpost : cur.toList.drop (l.length + 8) = post at hcur
  have hb5 : Blk w5 g (l.map bv ++ (Je.cb [0, 0, 0, 0, 0, 0, 0, 0] ++ post)) tB := by
    show w5.heap[g]? = some (.cells (l.map bv ++ (Je.cb [0, 0, 0, 0, 0, 0, 0, 0] ++ post)).toArray tB (0, 0))
    rw [← hcur, Array.toArray_toList]; exact hg
  have hen := enc_len v
  have ea : (if c5 = l.length then (some (⟨g, 0, none⟩ : Addr)) else Option.map (fun y : Addr => Addr.add y (l.length * 1)) (some ⟨g, 0, none⟩)) = some ⟨g, (l.map bv).length + 0, none⟩ := by
    rw [if_neg (by omega)]
    simp only [Option.map_some, addr_add, Nat.mul_one, Nat.zero_add, Nat.add_zero, List.length_map]
  have e8 : l.length + 8 - l.length = 8 := by omega
  simp only [Int.toNat_natCast, e8]
  rw [ea]
  refine s_call (Je.encode_any (m := 8) hb5 (by omega) hnh (by omega) (Nat.le_refl _)) ?_
  rintro e w6 ⟨rfl, b6, k6⟩
  refine ⟨(((enc v).length : Nat) : Int), rfl, ?_⟩
  have hwn : IntKind.wrap IntKind.i64 (((l.length : Nat) : Int) + (((enc v).length : Nat) : Int)) = ((l.length + (enc v).length : Nat) : Int) := by rw [wrap_in (by omega) (by omega)]; omega
  have hwp : IntKind.wrap IntKind.i64 ((IntKind.wrap IntKind.i64 (((p + 6 : Nat) : Int) - (1 : Int))) + (1 : Int)) = ((p + 6 : Nat) : Int) := by
    rw [wrap_in (n := ((p + 6 : Nat) : Int) - 1) (by omega) (by omega), wrap_in (by omega) (by omega)]; omega
  have ez : (if c5 = 0 then (some (⟨g, 0, none⟩ : Addr)) else Option.map (fun y : Addr => Addr.add y 0) (some ⟨g, 0, none⟩)) = some ⟨g, 0, none⟩ := by
    split
    · rfl
    · simp only [Option.map_some, addr_add, Nat.add_zero]
  simp only [hwn, hwp, Int.toNat_natCast, Nat.sub_zero, ez]
  refine s_chk (by omega) (s_leaf ?_)
  have hpN : pairU o p v = none := by
    unfold pairU
    cases uN o (p + 6) with
    | none => rfl
    | some k => exact if_neg (by omega)
  rw [uo_one hu hpN] at ht
  obtain ⟨t', h4, rfl⟩ := map_some ht
  have hpl8 := Je.put_len [0, 0, 0, 0, 0, 0, 0, 0] 0 (enc v)
  have hpt := Je.put_take (enc v) [0, 0, 0, 0, 0, 0, 0, 0] 0 (by show 0 + (enc v).length ≤ 8; omega)
  generalize Je.put [0, 0, 0, 0, 0, 0, 0, 0] 0 (enc v) = zs at b6 hpl8 hpt
  have hzs : zs.length = 8 := hpl8
  rw [Nat.zero_add, List.take_zero, List.nil_append] at hpt
  have hsz : cur.toList.length = c5 * 1 := by rw [Array.length_toList]; exact hs5
  have hpostl : post.length = c5 - (l.length + 8) := by rw [← hpost, List.length_drop, hsz, Nat.mul_one]
  have hB6 : BR w6 w.heap.size (some ⟨g, 0, none⟩, l.length + (enc v).length, c5) (l ++ enc v) := by
    have hlen : (l ++ enc v).length = l.length + (enc v).length := List.length_append
    refine ⟨by rw [List.length_map, Nat.mul_one], .inr ⟨g, c5, _, by rw [hlen]; rfl, hbg, b6, by rw [hlen]; omega, hm5, ?_, ?_⟩⟩
    · rw [List.size_toArray, List.length_append, List.length_append, List.length_map, Je.cb_len, hpostl, hzs]; omega
    · rw [hlen, Nat.mul_one]
      show (l.map bv ++ (Je.cb zs ++ post)).take (l.length + (enc v).length) = (l ++ enc v).map bv
      have h0 : (l.map bv).length = l.length := List.length_map _
      rw [List.take_append, h0, List.take_of_length_le (by omega), show l.length + (enc v).length - l.length = (enc v).length by omega, List.take_append_of_le_length (by rw [Je.cb_len]; omega)]
      unfold Je.cb
      rw [← List.map_take, hpt, List.map_append]
  have k06 : Kp Off w w6 := kp_then k05 k6 fun i hi e => by have e : i = g := e; omega
  exact on (p + 6) (some ⟨g, 0, none⟩, l.length + (enc v).length, c5) _ t' w6 _ rfl (by omega) (by omega) (by rw [List.length_append]; omega) (by rw [← sf_hex hb hX hu hnh]; exact hf) h4 (by rw [← hlt]; simp) hB6 k06
end Go.Proofs.YtbmmpnjpejamaaaDoor.Gu
