/- strconv.AppendQuote of a text behind no buffer. No statement of the set is proved here. -/
import Derived.Test.YtbmmpnjpejamaaaDoorTq
import Derived.Test.YtbmmpnjpejamaaaDoorBw
import Derived.Test.YtbmmpnjpejamaaaDoorMd
import Derived.Test.YtbmmpnjpejamaaaDoorLawGjUnescapeAny
import Derived.Laws.MakeOwn
import Derived.Laws.CopyRow
import Derived.Laws.IdiomCopy
import Derived.Lib.QuoteLoop
import Derived.Shelf.Strconv.Quoted
namespace Go.Proofs.YtbmmpnjpejamaaaDoor.Qa
open Go Go.Proofs Go.RowKit Go.Proofs.YtbmmpnjpejamaaaDoor.Rx Go.Proofs.YtbmmpnjpejamaaaDoor.Tr Go.Proofs.YtbmmpnjpejamaaaDoor.Pl Go.Proofs.YtbmmpnjpejamaaaDoor.Ut Go.Proofs.YtbmmpnjpejamaaaDoor.Ms Go.Proofs.YtbmmpnjpejamaaaDoor.Bw
open Go.Proofs.YtbmmpnjpejamaaaDoor.Sr (slV tBs tB)

/-- The tables of what is printed. -/
def Pt (T : Lib.PrintTabs) (w : World) : Prop := Lib.PrintTabsAt 9 10 11 12 T w
/-- A buffer of one's own; what stood below it in w0 stands. -/
def OB (w0 w : World) (x : Sr.Sl) (l : List Int) : Prop := Lib.OwnBuf w0.heap.size tB (slV x) l.length (Lib.intCells l) w0 w
theorem OB.len {w0 w : World} {x : Sr.Sl} {l : List Int} (h : OB w0 w x l) : x.2.1 = l.length := by
  obtain ⟨⟨_, ⟨h1, h2⟩ | ⟨g, cap, cur, fz, h1, _⟩⟩, _⟩ := h
  · obtain ⟨a, b, c⟩ := x
    simp only [slV, Value.slice.injEq] at h1
    rw [h2]; exact h1.2.1
  · obtain ⟨a, b, c⟩ := x
    simp only [slV, Value.slice.injEq] at h1
    exact h1.2.1
theorem OB.kp {w0 w : World} {x : Sr.Sl} {l : List Int} (h : OB w0 w x l) : Kp Off w0 w := Kp.of_below h.2.1
/-- A buffer of the library's is one of ours. -/
theorem OB.of {w0 w : World} {v : Value} {n : Nat} {l : List Int} (h : Lib.OwnBuf w0.heap.size tB v n (Lib.intCells l) w0 w) : ∃ x : Sr.Sl, v = slV x ∧ OB w0 w x l := by
  have hn : n = l.length := by
    have := h.1.1
    simp only [Lib.intCells, List.length_map, Nat.mul_one] at this
    exact this.symm
  subst hn
  obtain ⟨⟨a1, ⟨h1, h2⟩ | ⟨g, cap, cur, fz, h1, h3⟩⟩, h4⟩ := id h
  · subst h1
    exact ⟨(none, 0, 0), rfl, h⟩
  · subst h1
    exact ⟨(some ⟨g, 0, none⟩, l.length, cap), rfl, h⟩
theorem intCells_app (a b : List Int) : Lib.intCells (a ++ b) = Lib.intCells a ++ Lib.intCells b := List.map_append
variable {w0 w : World} {x : Sr.Sl} {l : List Int}
theorem OB.put (h : OB w0 w x l) (b : UInt8) (hn : l.length + 1 ≤ 4294967296) :
    ∃ w1, (Instr.buildSlice tBs 1 #[(0, bv b)]).run Tryd.prog w = .ok (.slice (some ⟨w.heap.size, 0, none⟩) 1 1) w1 ∧
      ∃ (x' : Sr.Sl) (w2 : World), (Builtin.append_ #[tBs, tBs] tBs #[slV x, .slice (some ⟨w.heap.size, 0, none⟩) 1 1]).run Tryd.prog w1 = .ok (slV x') w2 ∧ OB w0 w2 x' (l ++ [(b.toNat : Int)]) := by
  refine ⟨_, make_run [b] (by simp) (by show 1 ≤ 4096; decide), ?_⟩
  have h' := h.alloc (.cells [bv b].toArray tB)
  obtain ⟨v', w', h1, h2, h3, _⟩ := run_append_ownF (P := Tryd.prog) _ w0.heap.size tBs tBs tB _ (.int .u8 0) 1 1 Tryd.underlying48 (info_some (by kernel_rfl)) (by kernel_rfl) (by kernel_rfl) (by kernel_rfl) rfl (by decide)
    (slV x) l.length (Lib.intCells l) h'.1 ⟨w.heap.size, 0, none⟩ 1 1 [bv b] rfl (fun j u hj => by
      have := (Blk.new w [bv b] tB).cell j
      simp only [addr_add, Nat.zero_add]
      rw [this]; exact hj) (fun u hu => by simp at hu; subst hu; rfl) (by simp only [maxLen]; omega) (by omega) (by have := h'.2.2; simpa using this)
  have hb := h'.grown h2 h3
  have e : Lib.intCells l ++ [bv b] = Lib.intCells (l ++ [(b.toNat : Int)]) := by rw [intCells_app]; rfl
  rw [e] at hb
  obtain ⟨x', rfl, hx⟩ := OB.of hb
  exact ⟨x', w', h1, hx⟩
theorem s_ob {Q : Nat → List Value → World → Prop} {ats : Array TypeId} {K : Sh.slice.Ty → T} {c : Int} (h : OB w0 w x l) (b : UInt8) (hc : c = (b.toNat : Int)) (hn : l.length + 1 ≤ 4294967296) (ha : ats = #[tBs, tBs])
    (hK : ∀ (x' : Sr.Sl) (w' : World), OB w0 w' x' (l ++ [(b.toNat : Int)]) → sat Tryd.prog (K x') Q w') :
    sat Tryd.prog (.eff (Instr.buildSlice tBs 1 #[(0, .int .u8 c)]) .slice fun z3 => .eff (Builtin.append_ ats tBs #[(Value.slice (x).1 ((x).2).1 ((x).2).2), (Value.slice (z3).1 ((z3).2).1 ((z3).2).2)]) .slice K) Q w := by
  subst ha; subst hc
  obtain ⟨w1, h1, x', w2, h2, h3⟩ := h.put b hn
  refine s_eff (some ⟨w.heap.size, 0, none⟩, 1, 1) h1 ?_
  exact s_eff x' h2 (hK x' w2 h3)
theorem s_obS {Q : Nat → List Value → World → Prop} {ats : Array TypeId} {s : ByteArray} {K : Sh.slice.Ty → T} (h : OB w0 w x l) (m : List Int) (hs : Lib.strCells s = Lib.intCells m) (hn : l.length + s.size ≤ 4294967296) (ha : ats = #[tBs, 9])
    (hK : ∀ (x' : Sr.Sl) (w' : World), OB w0 w' x' (l ++ m) → sat Tryd.prog (K x') Q w') :
    sat Tryd.prog (.eff (Builtin.append_ ats tBs #[(Value.slice (x).1 ((x).2).1 ((x).2).2), (Value.string s)]) .slice K) Q w := by
  subst ha
  obtain ⟨v', w', h1, h2, h3, _⟩ := Lib.run_append_own_stringF (P := Tryd.prog) _ w0.heap.size tBs 9 tBs tB _ Tryd.underlying48 Tryd.underlying9 (info_some (by kernel_rfl)) (by kernel_rfl) (by kernel_rfl) (by kernel_rfl)
    (slV x) l.length (Lib.intCells l) h.1 s (by simp only [maxLen]; omega) (by omega) h.2.2
  have hb := h.grown h2 h3
  rw [hs, ← intCells_app] at hb
  obtain ⟨x', rfl, hx⟩ := OB.of hb
  exact s_eff x' h1 (hK x' w' hx)
def hexW : ByteArray := ByteArray.mk #[(48 : UInt8), (49 : UInt8), (50 : UInt8), (51 : UInt8), (52 : UInt8), (53 : UInt8), (54 : UInt8), (55 : UInt8), (56 : UInt8), (57 : UInt8), (97 : UInt8), (98 : UInt8), (99 : UInt8), (100 : UInt8), (101 : UInt8), (102 : UInt8)]
theorem hexW_at : ∀ d : Nat, d < 16 → (((hexW.data.toList.getD d 0).toNat : Nat) : Int) = Lib.hexDigit d := by decide
theorem and15 : ∀ n : Nat, n < 256 → (BitVec.toNat ((BitVec.ofInt 8 ((n : Nat) : Int)) &&& (BitVec.ofInt 8 (15 : Int)))) = n % 16 := by
  intro n hn
  have : BitVec.ofInt 8 ((n : Nat) : Int) = BitVec.ofNat 8 n := BitVec.ofInt_natCast 8 n
  rw [this, show BitVec.ofInt 8 (15 : Int) = BitVec.ofNat 8 15 by rfl, BitVec.toNat_and, BitVec.toNat_ofNat, BitVec.toNat_ofNat, show 15 % 2 ^ 8 = 2 ^ 4 - 1 by decide, Nat.and_two_pow_sub_one_eq_mod]
  omega
theorem quoted_any {s : ByteArray} {T : Lib.PrintTabs} {w0 : World} (h0 : 0 < s.size) (hs : s.size ≤ 100000) (hT : Pt T w0) (hU : Tb w0) :
    Calls Tryd.prog 88 #[.slice none 0 0, .string s, .int .u8 34, .bool false, .bool false] w0 fun e w' => ∃ x : Sr.Sl, e = .returned (slV x) ∧ OB w0 w' x (Lib.quoteZ T s) := by
  refine strconv_appendQuotedWith.calls _ _ _ _ _ _ _ ?_
  unfold strconv_appendQuotedWith.t
  have wz : IntKind.wrap IntKind.i64 (((0 : Nat) : Int) - ((0 : Nat) : Int)) = 0 := rfl
  have wc : IntKind.wrap IntKind.i64 ((IntKind.wrap IntKind.i64 ((IntKind.wrap IntKind.i64 (((0 : Nat) : Int) + (1 : Int))) + (((ByteArray.size s) : Nat) : Int))) + (1 : Int)) = ((s.size + 2 : Nat) : Int) := by
    have e1 : IntKind.wrap IntKind.i64 (((0 : Nat) : Int) + (1 : Int)) = 1 := rfl
    rw [e1, wrap_in (n := 1 + _) (by omega) (by omega), wrap_in (by omega) (by omega)]; omega
  rw [wz, wc]
  refine s_cut (fun x w' => OB w0 w' x.1 []) ?_ ?_
  · refine s_iteD (fun _ => ?_) (fun h => by omega)
    obtain ⟨w1, h1, h2, h3⟩ := run_make_own (P := Tryd.prog) w0 w0.heap.size tBs tB _ (.int .u8 0) 1 Tryd.underlying48 (info_some (by kernel_rfl)) (by kernel_rfl) (by kernel_rfl) .i64 .i64 (s.size + 2) (by
      rw [show ((Tryd.prog.info? tB).get (by kernel_rfl)).bytes = 1 from by kernel_rfl]; omega) (by simp only [maxLen]; omega) (Nat.le_refl _)
    refine s_eff (some ⟨w0.heap.size, 0, none⟩, 0, s.size + 2) h1 ?_
    have hr := run_copy_none (P := Tryd.prog) w1 tBs tBs 3 tB (some ⟨w0.heap.size, 0, none⟩) none 0 (s.size + 2) 0 0 Tryd.underlying48 (by kernel_rfl) (Nat.zero_min _)
    refine s_eff (0 : Int) hr (s_leaf ?_)
    rw [if_pos rfl]
    exact ⟨((some ⟨w0.heap.size, 0, none⟩, 0, s.size + 2), ()), rfl, ⟨World.ownsRowF_of h2, ((Kp.of_grown h3).mono (S' := Off) fun k _ h => by simp at h).belowOff, by have := h3.size; omega⟩⟩
  rintro x w1 hB
  obtain ⟨x, u⟩ := x
  simp only [strconv_appendQuotedWith.t1]
  have hB : OB w0 w1 x [] := hB
  refine s_ob hB 34 rfl (by simp) rfl fun x w2 hB => ?_
  have hB : OB w0 w2 x [34] := hB
  refine s_loop (fun n y w' => ∃ (rest : ByteArray) (z : Sr.Sl) (acc : List Int) (f : Nat), n = rest.size ∧ y = (rest, z, ()) ∧ rest.size ≤ f ∧ OB w0 w' z (34 :: acc) ∧ acc ++ Lib.quoteFrom T f rest = Lib.quoteFrom T s.size s ∧ acc.length + 10 * rest.size ≤ 10 * s.size)
    s.size (s, x, ()) rfl ⟨s, x, [], s.size, rfl, rfl, Nat.le_refl _, hB, rfl, by simp⟩ ?_
  rintro n y w3 ⟨rest, z, acc, f, rfl, rfl, hf, hB, hq, hl⟩
  simp only [strconv_appendQuotedWith.t2]
  have hlen : (34 :: acc).length = acc.length + 1 := rfl
  refine s_iteD (fun hr => ?_) (fun hr => ?_)
  rotate_left
  · refine s_ob hB 34 rfl (by rw [hlen]; omega) rfl fun x w4 hB => s_leaf ?_
    rw [if_neg (by decide)]
    refine ⟨rfl, x, rfl, ?_⟩
    rw [Lib.quoteFrom_end T f rest (by omega), List.append_nil] at hq
    unfold Lib.quoteZ
    rw [← hq]; exact hB
  have hr : 0 < rest.size := by omega
  have hdd := decode_dc rest 0
  refine s_call (decode_any (hU.off hB.kp) hr) ?_
  rintro e w4 ⟨rfl, k4⟩
  refine ⟨(((dc rest 0).1 : Int), ((dc rest 0).2 : Int), ()), rfl, ?_⟩
  have hw := dc_width hr
  have hB4 : OB w0 w4 z (34 :: acc) := buf_below hB (Kp.belowOff k4)
  have hT4 : Pt T w4 := printTabs_below hT (Kp.belowOff hB4.kp)
  have hK1 : (Utf8.decode rest 0).2 = (dc rest 0).2 := by rw [hdd]
  have hR1 : (Utf8.decode rest 0).1 = (dc rest 0).1 := by rw [hdd]
  have hrv := Lib.rune_valid rest
  rw [hR1] at hrv
  have hstep := Lib.quoteFrom_step T f rest hr hf
  rw [hK1] at hstep
  have hsl := Lib.quoteStep_length_le T rest
  have hgood := Lib.quoteStep_good T rest
  have hbad := Lib.quoteStep_bad T rest hr
  rw [hR1, hK1] at hgood hbad
  generalize hR : (dc rest 0).1 = R at *
  generalize hKK : (dc rest 0).2 = K at *
  clear hdd hK1 hR1
  refine s_cut (fun y w' => y = (decide (K = 1 ∧ R = 65533), ()) ∧ w4 = w') ?_ ?_
  · refine s_iteE (fun h => s_leaf ?_) (fun h => s_leaf ?_)
    · rw [if_pos rfl]
      have h1 : K = 1 := by have h : (K : Int) = 1 := h; omega
      have hb : (((R : Nat) : Int) == (65533 : Int)) = decide (K = 1 ∧ R = 65533) := by
        by_cases hh : R = 65533
        · subst hh; simp [h1]
        · have : ¬ (R : Int) = 65533 := by omega
          simp [hh, this]
      exact ⟨(_, ()), rfl, congrArg (fun b : Bool => (b, ())) hb, rfl⟩
    · rw [if_pos rfl]
      have h1 : ¬ K = 1 := by intro e; exact h (by show (K : Int) = 1; omega)
      have hb : false = decide (K = 1 ∧ R = 65533) := by simp [h1]
      exact ⟨(false, ()), rfl, congrArg (fun b : Bool => (b, ())) hb, rfl⟩
  rintro y w5 ⟨rfl, rfl⟩
  simp only [strconv_appendQuotedWith.t3]
  have ex : ByteArray.extract rest (Int.toNat ((K : Nat) : Int)) (Int.toNat (((ByteArray.size rest) : Nat) : Int)) = rest.extract K rest.size := by rw [Int.toNat_natCast, Int.toNat_natCast]
  have hez : (rest.extract K rest.size).size = rest.size - K := by rw [ByteArray.size_extract]; omega
  have fin : ∀ (z' : Sr.Sl) (w' : World), OB w0 w' z' (34 :: acc ++ Lib.quoteStep T rest) → ∃ n' x', [Value.string (rest.extract K rest.size), .slice z'.1 z'.2.1 z'.2.2] = (Sh.cons .str (.cons .slice .nil)).vals x' ∧ n' < rest.size ∧
      ∃ (rest : ByteArray) (z : Sr.Sl) (acc : List Int) (f : Nat), n' = rest.size ∧ x' = (rest, z, ()) ∧ rest.size ≤ f ∧ OB w0 w' z (34 :: acc) ∧ acc ++ Lib.quoteFrom T f rest = Lib.quoteFrom T s.size s ∧ acc.length + 10 * rest.size ≤ 10 * s.size := by
    intro z' w' hB'
    refine ⟨rest.size - K, (rest.extract K rest.size, z', ()), rfl, by omega, rest.extract K rest.size, z', acc ++ Lib.quoteStep T rest, f - 1, hez.symm, rfl, by omega, hB', ?_, ?_⟩
    · rw [List.append_assoc, ← hstep]; exact hq
    · rw [List.length_append, hez]; omega
  refine s_iteD (fun hh => ?_) (fun hh => ?_)
  · obtain ⟨rfl, rfl⟩ := hh
    have hbt0 : bt rest 0 = ((bn rest 0 : Nat) : Int) := bt_bn rest 0
    have hlt := bn_lt rest 0
    have hbn : bn rest 0 = (rest[0]'hr).toNat := by
      show (rest.data.toList.getD 0 0).toNat = _
      rw [List.getD_eq_getElem?_getD, Array.getElem?_toList, Array.getElem?_eq_getElem (by exact hr)]; rfl
    have hbad := hbad rfl rfl
    rw [← hbn] at hbad
    refine s_obS hB4 [92, 120] rfl (by rw [hlen]; show _ + 2 ≤ _; omega) rfl fun z1 w6 hB6 => ?_
    have ef : Int.fdiv (bt rest 0) 16 = ((bn rest 0 / 16 : Nat) : Int) := by rw [hbt0, Int.fdiv_eq_ediv_of_nonneg _ (by decide)]; omega
    have ea : IntKind.wrap IntKind.u8 (((BitVec.toNat ((BitVec.ofInt 8 (bt rest (0 : Int))) &&& (BitVec.ofInt 8 (15 : Int)))) : Nat) : Int) = ((bn rest 0 % 16 : Nat) : Int) := by
      rw [hbt0, and15 _ hlt]
      show ((bn rest 0 % 16 : Nat) : Int) % 256 = _
      omega
    rw [ef, ea]
    refine s_chk (by omega) (s_chk (by decide) (s_chk (by omega) ?_))
    refine s_ob hB6 (gb hexW (bn rest 0 / 16)) (by
      show bt hexW _ = _
      rw [bt_bn]; rfl) (by simp; omega) rfl fun z2 w7 hB7 => ?_
    refine s_chk (by omega) (s_chk (by omega) ?_)
    refine s_ob hB7 (gb hexW (bn rest 0 % 16)) (by
      show bt hexW _ = _
      rw [bt_bn]; rfl) (by simp; omega) rfl fun z3 w8 hB8 => ?_
    refine s_chk (by omega) (s_leaf ?_)
    rw [if_pos rfl, ex]
    refine fin z3 w8 ?_
    rw [hbad]
    have d1 := hexW_at (bn rest 0 / 16) (by omega)
    have d2 := hexW_at (bn rest 0 % 16) (by omega)
    have hB8 : OB w0 w8 z3 (34 :: acc ++ [92, 120] ++ [(((hexW.data.toList.getD (bn rest 0 / 16) 0).toNat : Nat) : Int)] ++ [(((hexW.data.toList.getD (bn rest 0 % 16) 0).toNat : Nat) : Int)]) := hB8
    rw [d1, d2] at hB8
    simpa using hB8
  · have hst := hgood hh
    refine s_call (Tryd.strconv_appendEscapedRune T w0.heap.size (slV z) (34 :: acc).length (Lib.intCells (34 :: acc)) (R : Int) w0 w4 hB4 (by rw [hlen]; omega) hT4 hrv) ?_
    rintro e w6 ⟨v', rfl, hB6⟩
    rw [← intCells_app, ← hst] at hB6
    obtain ⟨z', rfl, hx⟩ := OB.of hB6
    refine ⟨z', rfl, s_chk (by omega) (s_leaf ?_)⟩
    rw [if_pos rfl, ex]
    exact fin z' w6 hx
end Go.Proofs.YtbmmpnjpejamaaaDoor.Qa
