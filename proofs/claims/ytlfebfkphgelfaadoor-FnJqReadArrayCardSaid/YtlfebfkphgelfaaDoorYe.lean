/- jsonparser's ReaderParser over pieces: readMore, peekByte. No statement of the set is proved here. -/
import Derived.Test.YtlfebfkphgelfaaDoorYd
namespace Go.Proofs.YtlfebfkphgelfaaDoor.Yr
open Go Go.Proofs Go.RowKit Go.Proofs.YtlfebfkphgelfaaDoor.Rx Go.Proofs.YtlfebfkphgelfaaDoor.Tr Go.Proofs.YtlfebfkphgelfaaDoor.Pl Go.Proofs.YtlfebfkphgelfaaDoor.Pw
open Go.Proofs.YtlfebfkphgelfaaDoor.Sr (Sl slV tBs tB)
open Go.Proofs.YtlfebfkphgelfaaDoor.Bw (bv gb bt_bv)

variable {w w' w'' : World} {s : ByteArray} {win : Int} {g h hp gB o i e : Nat} {ps : List ByteArray}
theorem method_read (w : World) (p : Option Addr) : (method (Tryd.prog.types.size + Made.depth) tPR (.pointer p) "Read").run Tryd.prog w = .ok (134, .pointer p) w := by kernel_rfl
/-- What a call for more gives. -/
def More (s : ByteArray) (win : Int) (g h hp : Nat) (w : World) (gB o i e : Nat) (ps : List ByteArray) (w' : World) : Prop := ∃ (gB' e' : Nat) (ps' : List ByteArray), RS s win g h hp w' gB' o i e' ps' ∧ s.size - e' + ps'.length < s.size - e + ps.length ∧ e ≤ e' ∧ Mv g h hp w gB w' gB'
theorem cat_cons (x : ByteArray) (r : List ByteArray) : cat (x :: r) = x.data.toList ++ cat r := rfl
theorem len_of (x : ByteArray) : x.data.toList.length = x.size := by rw [← Lib.size_eq]
theorem more_any {Q : Nat → List Value → World → Prop} {op pc k N : Nat} {z : Sl} (H : Room s win g h hp w gB o i e ps op pc k N) (hps : ps ≠ []) (hN : 1 ≤ N) (hz : z.2.1 = e - o) (hQ : ∀ w', More s win g h hp w gB o i e ps w' → Q 0 [.nilIface] w') (hQ1 : ∀ w', More s win g h hp w gB o i e ps w' → Q 0 [.nilIface] w') :
    sat Tryd.prog (jsonparser_ReaderParser_readMore.t4 (some ⟨g, 0, none⟩) (N : Int) z) Q w := by
  obtain ⟨ob, buf, H, hroom⟩ := H
  obtain ⟨za, zl, zc⟩ := z
  have hz : zl = e - o := hz
  subst hz
  have ho := H.ord
  have hs := H.sz
  have hl := H.len
  have hlc := H.lec
  have hcap := H.cap
  obtain ⟨n1, n2, n3, n4, n5, n6⟩ := H.ne
  rcases H.bf with h0 | ⟨h1, h2, h3⟩
  · omega
  obtain ⟨ba, bl, bc⟩ := buf
  have h1 : ba = some ⟨gB, ob, none⟩ := h1
  have hl : bl = e - o := hl
  have hroom : e - o + N ≤ bc := hroom
  have hcap : bc ≤ 1000000 := hcap
  subst h1
  subst hl
  generalize hLL : e - o = L at *
  unfold jsonparser_ReaderParser_readMore.t4
  have e1 : IntKind.wrap IntKind.i64 ((L : Int) + (N : Int)) = ((L + N : Nat) : Int) := by rw [wrap_in (by omega) (by omega)]; omega
  refine s_ptr (s_load (some ⟨gB, ob, none⟩, L, bc) (by rw [addr_add, Nat.zero_add, H.rp.cell]; rfl) ?_)
  dsimp only
  rw [e1]
  refine s_chk ⟨by omega, by omega, by omega⟩ (s_ptr (s_store (by rw [addr_add, Nat.zero_add]; exact H.rp.cell 1) (by rw [addr_add, Nat.zero_add]; exact H.rp.free 1) ?_))
  have hbc : bc ≠ 0 := by omega
  rw [addr_add, Nat.zero_add, Int.toNat_natCast, if_neg hbc, Option.map_some, addr_add, Nat.add_zero, Nat.sub_zero, Nat.sub_zero]
  have k1 : Kp (On g) w (w.setCell ⟨g, 1, none⟩ (slV (some ⟨gB, ob, none⟩, L + N, bc))) := (Kp.refl _ w).on 1 _
  have b1 : Blk (w.setCell ⟨g, 1, none⟩ (slV (some ⟨gB, ob, none⟩, L + N, bc))) g (rc h (some ⟨gB, ob, none⟩, L + N, bc) (o : Int) ((i - o : Nat) : Int) win (k : Int)) tRP := H.rp.set 1 _
  show sat _ _ _ (w.setCell ⟨g, 1, none⟩ (slV (some ⟨gB, ob, none⟩, L + N, bc)))
  generalize w.setCell ⟨g, 1, none⟩ (slV (some ⟨gB, ob, none⟩, L + N, bc)) = w1 at k1 b1
  refine s_drew ?_
  have k2 := k1.drew
  have b2 : Blk w1.drew g (rc h (some ⟨gB, ob, none⟩, L + N, bc) (o : Int) ((i - o : Nat) : Int) win (k : Int)) tRP := b1.drew
  generalize w1.drew = w2 at k2 b2
  refine s_ptr (s_load (.iface tPR (.pointer (some ⟨h, 0, none⟩))) (by rw [addr_add, Nat.zero_add, b2.cell]; rfl) (s_ptr (s_load (some ⟨gB, ob, none⟩, L + N, bc) (by rw [addr_add, Nat.zero_add, b2.cell]; rfl) ?_)))
  refine s_chk ⟨by omega, by show (L : Int) ≤ ((L + N : Nat) : Int); omega, by show ((L + N : Nat) : Int) ≤ (bc : Int); omega⟩ ?_
  refine ⟨.iface tPR (.pointer (some ⟨h, 0, none⟩)), fun w'' _ => read_res _ w'' rfl, ?_⟩
  refine ⟨tPR, .pointer (some ⟨h, 0, none⟩), 134, .pointer (some ⟨h, 0, none⟩), rfl, fun w => method_read w _, by kernel_rfl, ?_⟩
  obtain ⟨x, rest, rfl⟩ : ∃ x rest, ps = x :: rest := by
    cases ps with
    | nil => exact absurd rfl hps
    | cons x rest => exact ⟨x, rest, rfl⟩
  have hbL : bc ≠ L := by omega
  have hB2 := k2.block gB H.gl n4
  have pr2 := H.pr.kp k2 H.hpl (fun e => n1 (Eq.symm e)) (fun e => n2 (Eq.symm e))
  have hpl2 := Nat.lt_of_lt_of_le H.hpl k2.size
  have gl2 := Nat.lt_of_lt_of_le H.gl k2.size
  have hread := read_any (w := w2) (d := ob + L) (bl := N) (bc := bc - L) pr2 hpl2 n3 n5 n6 gl2 (fun j hj => by
    have h4 := h3 (L + j) (by show L + j < bc; omega)
    rw [show ob + L + j = ob + (L + j) by omega]
    exact ⟨by rw [World.cell?_of_block (a := ⟨gB, ob + (L + j), none⟩) hB2]; exact h4.1, (World.frozen?_of_block (a := ⟨gB, ob + (L + j), none⟩) hB2).trans h4.2⟩)
  rw [Int.toNat_natCast, if_neg hbL, Option.map_some, addr_add, Nat.mul_one]
  show Calls Tryd.prog _ #[.pointer (some ⟨h, 0, none⟩), .slice (some ⟨gB, ob + L, none⟩) (L + N - L) (bc - L)] _ _
  rw [Nat.add_sub_cancel_left]
  refine Calls.mono hread ?_
  rintro en w3 ⟨rfl, k3, cin, cout, cfr, op', pc', ps', pr3, hps'⟩
  generalize hn : Nat.min x.size N = n at cin cout
  have hnx : n ≤ x.size := by rw [← hn]; exact Nat.min_le_left _ _
  have hnN : n ≤ N := by rw [← hn]; exact Nat.min_le_right _ _
  have g3 : ¬ (g = gB ∨ g = h ∨ g = hp) := by
    rintro (e | e | e)
    · exact n4 (Eq.symm e)
    · exact n1 e
    · exact n2 e
  have b3 := k3.blk b2 g3
  refine ⟨((n : Int), Value.nilIface, ()), rfl, ?_⟩
  have hxl : x.size ≤ s.size - e := by
    have h5 : (cat (x :: rest)).length = s.size - e := by rw [H.ct, List.length_drop, len_of]
    rw [cat_cons, List.length_append, len_of] at h5
    omega
  have e3 : IntKind.wrap IntKind.i64 ((L : Int) + (n : Int)) = ((L + n : Nat) : Int) := by rw [wrap_in (by omega) (by omega)]; omega
  refine s_ptr (s_load (some ⟨gB, ob, none⟩, L + N, bc) (by rw [addr_add, Nat.zero_add, b3.cell]; rfl) ?_)
  dsimp only
  rw [e3]
  refine s_chk ⟨by omega, by omega, by omega⟩ (s_ptr (s_store (by rw [addr_add, Nat.zero_add]; exact b3.cell 1) (by rw [addr_add, Nat.zero_add]; exact b3.free 1) ?_))
  rw [addr_add, Nat.zero_add, Int.toNat_natCast, if_neg hbc, Option.map_some, addr_add, Nat.add_zero, Nat.sub_zero, Nat.sub_zero]
  have k4 : Kp (On g) w3 (w3.setCell ⟨g, 1, none⟩ (slV (some ⟨gB, ob, none⟩, L + n, bc))) := (Kp.refl _ w3).on 1 _
  have b4 : Blk (w3.setCell ⟨g, 1, none⟩ (slV (some ⟨gB, ob, none⟩, L + n, bc))) g (rc h (some ⟨gB, ob, none⟩, L + n, bc) (o : Int) ((i - o : Nat) : Int) win (k : Int)) tRP := b3.set 1 _
  show sat _ _ _ (w3.setCell ⟨g, 1, none⟩ (slV (some ⟨gB, ob, none⟩, L + n, bc)))
  generalize w3.setCell ⟨g, 1, none⟩ (slV (some ⟨gB, ob, none⟩, L + n, bc)) = w4 at k4 b4
  -- the end
  have hct : cat ps' = s.data.toList.drop (e + n) := by
    have h5 : x.data.toList ++ cat rest = s.data.toList.drop e := H.ct
    rw [← List.drop_drop, ← h5, hps']
    by_cases hc : x.size ≤ N
    · rw [if_pos hc]
      have : n = x.data.toList.length := by rw [← hn, len_of]; exact Nat.min_eq_left hc
      rw [this, List.drop_left]
    · rw [if_neg hc, cat_cons]
      have hnn : n = N := by rw [← hn]; exact Nat.min_eq_right (by omega)
      rw [hnn, List.drop_append_of_le_length (by rw [len_of]; omega)]
      congr 1
      have : (x.extract N x.size).data.toList = x.data.toList.drop N := by
        rw [ByteArray.data_extract, Array.toList_extract, List.extract_eq_take_drop, List.take_of_length_le]
        rw [List.length_drop, len_of]; exact Nat.le_refl _
      exact this
  have fin : ∀ (w5 : World) (k' : Nat), Kp (On g) w3 w5 → Blk w5 g (rc h (some ⟨gB, ob, none⟩, L + n, bc) (o : Int) ((i - o : Nat) : Int) win (k' : Int)) tRP → Alt k' ps' → (n = 0 → ps'.length < (x :: rest).length) → More s win g h hp w gB o i e (x :: rest) w5 := by
    intro w5 k' k5 b5 ha hlen
    have hB5 := k5.block gB (Nat.lt_of_lt_of_le gl2 k3.size) n4
    have hpl' : ps'.length ≤ rest.length + 1 := by
      rw [hps']; split
      · omega
      · exact Nat.le_refl _
    refine ⟨gB, e + n, ps', ⟨op', pc', ob, k', (some ⟨gB, ob, none⟩, L + n, bc), b5, pr3.kp k5 (Nat.lt_of_lt_of_le hpl2 k3.size) (fun e => n1 (Eq.symm e)) (fun e => n2 (Eq.symm e)), by show L + n = e + n - o; omega, by show L + n ≤ bc; omega, hcap, .inr ⟨rfl, fun j hj => ?_, fun j hj => ?_⟩, ha, ⟨ho.1, by omega, by omega⟩, Nat.lt_of_lt_of_le hpl2 (Nat.le_trans k3.size k5.size), Nat.lt_of_lt_of_le gl2 (Nat.le_trans k3.size k5.size), ⟨n1, n2, n3, n4, n5, n6⟩, hct, H.wn, H.sz⟩, ?_, Nat.le_add_right _ _, ?_, .inl rfl⟩
    · rw [World.cell?_of_block (a := ⟨gB, ob + j, none⟩) hB5]
      rcases Nat.lt_or_ge j L with gj | gj
      · rw [cout (ob + j) (.inl (by omega)), World.cell?_of_block (a := ⟨gB, ob + j, none⟩) hB2]
        exact h2 j (by omega)
      · have h6 := cin (j - L) (by omega)
        rw [show ob + L + (j - L) = ob + j by omega] at h6
        rw [h6, bt_bv]
        unfold gb
        have h5 : x.data.toList ++ cat rest = s.data.toList.drop e := H.ct
        have h7 : s.data.toList[o + j]? = x.data.toList[j - L]? := by
          have h8 : (s.data.toList.drop e)[j - L]? = (x.data.toList ++ cat rest)[j - L]? := by rw [h5]
          rw [List.getElem?_drop, List.getElem?_append_left (by rw [len_of]; omega)] at h8
          rw [show o + j = e + (j - L) by omega]; exact h8
        rw [List.getD_eq_getElem?_getD, List.getD_eq_getElem?_getD, h7]
    · have hj : j < bc := hj
      have h4 := h3 j hj
      refine ⟨?_, ?_⟩
      · rw [World.cell?_of_block (a := ⟨gB, ob + j, none⟩) hB5]
        by_cases hin : ob + j < ob + L ∨ ob + L + n ≤ ob + j
        · rw [cout (ob + j) hin, World.cell?_of_block (a := ⟨gB, ob + j, none⟩) hB2]; exact h4.1
        · have h6 := cin (j - L) (by omega)
          rw [show ob + L + (j - L) = ob + j by omega] at h6
          rw [h6]; rfl
      · rw [World.frozen?_of_block (a := ⟨gB, ob + j, none⟩) hB5, cfr, World.frozen?_of_block (a := ⟨gB, ob + j, none⟩) hB2]; exact h4.2
    · show s.size - (e + n) + ps'.length < s.size - e + (rest.length + 1)
      rcases Nat.eq_zero_or_pos n with hn0 | hn0
      · have := hlen hn0
        have : (x :: rest).length = rest.length + 1 := rfl
        omega
      · omega
    · have kA : Kp (Fr g h hp gB) w w2 := k2.mono fun q _ e => .inl e
      have kB : Kp (Fr g h hp gB) w2 w3 := k3.mono fun q _ e => by
        rcases e with e | e | e
        · exact .inr (.inr (.inr e))
        · exact .inr (.inl e)
        · exact .inr (.inr (.inl e))
      exact (kA.trans kB).trans (k5.mono fun q _ e => .inl e)
  refine s_iteD (fun hgt => ?_) (fun hle => ?_)
  · refine s_ptr (s_store (by rw [addr_add, Nat.zero_add]; exact b4.cell 8) (by rw [addr_add, Nat.zero_add]; exact b4.free 8) ?_)
    rw [addr_add, Nat.zero_add]
    have k5 := k4.on 8 (.int .i64 (0 : Int))
    have b5 : Blk (w4.setCell ⟨g, 8, none⟩ (.int .i64 (0 : Int))) g (rc h (some ⟨gB, ob, none⟩, L + n, bc) (o : Int) ((i - o : Nat) : Int) win ((0 : Nat) : Int)) tRP := b4.set 8 _
    generalize w4.setCell ⟨g, 8, none⟩ (.int .i64 (0 : Int)) = w5 at k5 b5
    have hxn : x.size ≠ 0 := by omega
    have hAlt : Alt 0 ps' := by
      have ha := (H.alt).2 hxn
      rw [hps']; split
      · exact ha
      · rename_i hc
        refine ⟨fun e0 => ?_, fun _ => ha⟩
        rw [ByteArray.size_extract] at e0
        omega
    refine s_chk rfl (s_cut (fun _ w' => w5 = w') (sat_iteF.2 (s_leaf ?_)) ?_)
    · rw [if_pos rfl]; exact ⟨(), rfl, rfl⟩
    rintro _ w' rfl
    show sat _ jsonparser_ReaderParser_readMore.t5 _ _
    unfold jsonparser_ReaderParser_readMore.t5
    exact s_leaf (hQ w5 (fin w5 0 k5 b5 hAlt (fun e0 => by omega)))
  · have hn0 : n = 0 := by omega
    have hx0 : x.size = 0 := by
      have : Nat.min x.size N = 0 := by omega
      rcases Nat.le_total x.size N with g1 | g1
      · rw [show Nat.min x.size N = x.size from Nat.min_eq_left g1] at this; exact this
      · rw [show Nat.min x.size N = N from Nat.min_eq_right g1] at this; omega
    obtain ⟨hk0, hAlt⟩ := (H.alt).1 hx0
    subst hk0
    have hps2 : ps' = rest := by rw [hps', if_pos (by omega)]
    refine s_chk rfl (sat_iteF.2 (s_ptr (s_load (0 : Int) (by rw [addr_add, Nat.zero_add, b4.cell]; rfl) (s_ptr (s_store (by rw [addr_add, Nat.zero_add]; exact b4.cell 8) (by rw [addr_add, Nat.zero_add]; exact b4.free 8) ?_)))))
    have ew : IntKind.wrap IntKind.i64 ((0 : Int) + (1 : Int)) = 1 := by rw [wrap_in (by omega) (by omega)]; rfl
    rw [addr_add, Nat.zero_add, ew]
    have k5 := k4.on 8 (.int .i64 (1 : Int))
    have b5 : Blk (w4.setCell ⟨g, 8, none⟩ (.int .i64 (1 : Int))) g (rc h (some ⟨gB, ob, none⟩, L + n, bc) (o : Int) ((i - o : Nat) : Int) win ((1 : Nat) : Int)) tRP := b4.set 8 _
    generalize w4.setCell ⟨g, 8, none⟩ (.int .i64 (1 : Int)) = w5 at k5 b5
    refine s_ptr (s_load (1 : Int) (by rw [addr_add, Nat.zero_add, b5.cell]; rfl) (s_iteD (fun g => absurd g (by decide)) (fun _ => s_leaf ?_)))
    exact hQ1 w5 (fin w5 1 k5 b5 (by rw [hps2]; exact hAlt) (fun _ => by rw [hps2]; exact Nat.lt_succ_self _))
end Go.Proofs.YtlfebfkphgelfaaDoor.Yr
