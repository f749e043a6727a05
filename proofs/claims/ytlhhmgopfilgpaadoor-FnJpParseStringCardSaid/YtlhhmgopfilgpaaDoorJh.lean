/- jsonparser's Unescape: what it says as a function of a text; copies between rows, the place of a byte. No statement of the set is proved here. -/
import Derived.Test.YtlhhmgopfilgpaaDoorJg
import Derived.Test.YtlhhmgopfilgpaaDoorQl
import Derived.Test.YtlhhmgopfilgpaaDoorSh
import Derived.Laws.CopyRow
import Derived.Laws.MakeOwn
namespace Go.Proofs.YtlhhmgopfilgpaaDoor.Je
open Go Go.Proofs Go.RowKit Go.Proofs.YtlhhmgopfilgpaaDoor.Rx Go.Proofs.YtlhhmgopfilgpaaDoor.Tr Go.Proofs.YtlhhmgopfilgpaaDoor.Pl Go.Proofs.YtlhhmgopfilgpaaDoor.Ut Go.Proofs.YtlhhmgopfilgpaaDoor.Ch Go.Proofs.YtlhhmgopfilgpaaDoor.Bw Go.Proofs.YtlhhmgopfilgpaaDoor.Uq Go.Proofs.YtlhhmgopfilgpaaDoor.Ql

/-- What the text stands for from a place on; none if a backslash begins no escape. -/
def ue (s : ByteArray) (i : Nat) : Option (List UInt8) :=
  if i < s.size then
    if bn s i ≠ 92 then (ue s (i + 1)).map (gb s i :: ·)
    else match stp s i with
      | none => none
      | some p => if 0 < p.1 then (ue s (i + p.1)).map (p.2 ++ ·) else none
  else some []
termination_by s.size - i
theorem ue_end {s : ByteArray} {i : Nat} (h : s.size ≤ i) : ue s i = some [] := by rw [ue, if_neg (by omega)]
theorem ue_plain {s : ByteArray} {i : Nat} (h : i < s.size) (hb : bn s i ≠ 92) : ue s i = (ue s (i + 1)).map (gb s i :: ·) := by rw [ue, if_pos h, if_pos hb]
theorem ue_esc {s : ByteArray} {i k : Nat} {o : List UInt8} (hb : bn s i = 92) (hs : stp s i = some (k, o)) : ue s i = (ue s (i + k)).map (o ++ ·) := by
  have := stp_le hs
  rw [ue, if_pos (by omega), if_neg (by simp [hb]), hs]
  simp only
  rw [if_pos (by omega)]
theorem ue_bad {s : ByteArray} {i : Nat} (h : i < s.size) (hb : bn s i = 92) (hs : stp s i = none) : ue s i = none := by
  rw [ue, if_pos h, if_neg (by simp [hb]), hs]
theorem ue_run {s : ByteArray} : ∀ (l : List UInt8) (i : Nat) (r : List UInt8), tl s i = l ++ r → (∀ x ∈ l, x ≠ 92) → ue s i = (ue s (i + l.length)).map (l ++ ·)
  | [], i, r, _, _ => by show ue s i = (ue s i).map (fun x => x); cases ue s i <;> rfl
  | c :: l, i, r, h, hl => by
    obtain ⟨h1, h2, h3⟩ := tl_cons (show tl s i = c :: (l ++ r) from h)
    have hc : bn s i ≠ 92 := fun e => hl c (by simp) (by rw [← h2]; exact gb_of e)
    have ih := ue_run l (i + 1) r h3 fun x hx => hl x (List.mem_cons_of_mem _ hx)
    rw [ue_plain h1 hc, ih, h2, show i + (c :: l).length = i + 1 + l.length by simp only [List.length_cons]; omega]
    cases ue s (i + 1 + l.length) <;> rfl
/-- Where a byte first stands. -/
theorem ix_cases (c : UInt8) : ∀ l : List UInt8, (Lib.indexByte l c = -1 ∧ ∀ x ∈ l, x ≠ c) ∨ ∃ k : Nat, Lib.indexByte l c = (k : Int) ∧ k < l.length ∧ (∀ x ∈ l.take k, x ≠ c) ∧ ∃ r, l.drop k = c :: r
  | [] => .inl ⟨rfl, by simp⟩
  | b :: l => by
    unfold Lib.indexByte
    by_cases hb : b = c
    · subst hb
      right
      refine ⟨0, by simp, by simp, by simp, l, rfl⟩
    · have hb' : (b == c) = false := by simpa using hb
      rw [hb']
      simp only [Bool.false_eq_true, if_false]
      rcases ix_cases c l with ⟨h1, h2⟩ | ⟨k, h1, h2, h3, r, h4⟩
      · left
        rw [h1]
        refine ⟨rfl, fun x hx => ?_⟩
        rcases List.mem_cons.1 hx with rfl | hx
        · exact hb
        · exact h2 x hx
      · right
        rw [h1]
        refine ⟨k + 1, ?_, by simp only [List.length_cons]; omega, fun x hx => ?_, r, h4⟩
        · have : ((k : Int) == -1) = false := by simp only [beq_eq_false_iff_ne, ne_eq]; omega
          rw [this]; simp
        · rw [List.take_succ_cons] at hx
          rcases List.mem_cons.1 hx with rfl | hx
          · exact hb
          · exact h3 x hx
theorem tl_len (s : ByteArray) (a : Nat) : (tl s a).length = s.size - a := by unfold tl; rw [List.length_drop, Array.length_toList]; rfl
theorem tl_get {s : ByteArray} {a j : Nat} (h : a + j < s.size) : (tl s a)[j]? = some (gb s (a + j)) := by
  show (s.data.toList.drop a)[j]? = some (s.data.toList.getD (a + j) 0)
  have hl : a + j < s.data.toList.length := by rw [Array.length_toList]; exact h
  rw [List.getElem?_drop, List.getD_eq_getElem?_getD, List.getElem?_eq_getElem hl]; rfl
theorem tl_drop (s : ByteArray) (a k : Nat) : tl s (a + k) = (tl s a).drop k := by
  show s.data.toList.drop (a + k) = (s.data.toList.drop a).drop k
  rw [List.drop_drop]
theorem index_any {w : World} {s : ByteArray} {g y a n cap : Nat} (hI : In w s g y a n) :
    Calls Tryd.prog 61 #[.slice (some ⟨g, y, none⟩) n cap, .int .u8 92] w fun e w' => e = .returned (.int .i64 (Lib.indexByte (tl s a) 92)) ∧ w' = w := by
  have hl := hI.len
  have h := Tryd.bytes_IndexByte g y n cap ((tl s a).map fun b => (b.toNat : Int)) 92 w (by rw [List.length_map, tl_len]; exact hl.symm) (fun i hi => by
    rw [hI.cell hi]
    congr 2
    rw [List.getD_eq_getElem?_getD, List.getElem?_map, tl_get (by omega)]
    rfl)
  have e : Lib.bytesOf ((tl s a).map fun b => (b.toNat : Int)) = tl s a := by
    unfold Lib.bytesOf
    rw [List.map_map]
    conv => rhs; rw [← List.map_id (tl s a)]
    apply List.map_congr_left
    intro b _
    show UInt8.ofNat ((b.toNat : Int)).toNat = b
    rw [Int.toNat_natCast, UInt8.ofNat_toNat]
  rw [e] at h
  exact h
theorem kp_row {w : World} {h : Nat} {cs : Array Value} : Kp (On h) w (w.setRow h cs) :=
  ⟨rfl, rfl, rfl, by show w.heap.size ≤ (w.heap.modify h _).size; rw [Array.size_modify]; exact Nat.le_refl _, fun k hk hn => by
    show (w.heap.modify h _)[k]? = _
    rw [Array.getElem?_modify, if_neg (fun e => hn e.symm)]⟩
theorem s_copy {Q : Nat → List Value → World → Prop} {w : World} {s : ByteArray} {h g y2 y a c m cap2 n N' cap T' : Nat} {l : List UInt8} {ats : Array TypeId} {t : TypeId} {K : Int → T}
    (hb : Blk w h (cb l) T') (ha : ats = #[Sr.tBs, Sr.tBs]) (hI : In w s g y a N') (hnN : n ≤ N') (hnm : n ≤ m) (hfit : c + n ≤ l.length) (hy2 : 0 < n → y2 = c)
    (hK : ∀ w', Blk w' h (cb (l.take c ++ (tl s a).take n ++ l.drop (c + n))) T' → Kp (On h) w w' → sat Tryd.prog (K (n : Int)) Q w') :
    sat Tryd.prog (.eff (Builtin.copy_ ats t #[.slice (some ⟨h, y2, none⟩) m cap2, .slice (some ⟨g, y, none⟩) n cap]) (.int .i64) K) Q w := by
  subst ha
  have hl := hI.len
  have htl : ((tl s a).take n).length = n := by rw [List.length_take, tl_len]; omega
  rcases Nat.eq_zero_or_pos n with h0 | h0
  · subst h0
    have hr := run_copy_none (P := Tryd.prog) w Sr.tBs Sr.tBs t Sr.tB (some ⟨h, y2, none⟩) (some ⟨g, y, none⟩) m cap2 0 cap Tryd.underlying43 (by kernel_rfl) (Nat.zero_min _)
    refine s_eff ((0 : Nat) : Int) hr (hK w ?_ (Kp.refl _ _))
    rw [List.take_zero, List.append_nil, Nat.add_zero, List.take_append_drop]; exact hb
  · have hy := hy2 h0
    subst hy
    have hcl : (cb ((tl s a).take n)).length = n := by rw [cb_len, htl]
    have hr := run_copy_row (P := Tryd.prog) w Sr.tBs Sr.tBs t Sr.tB h y2 m cap2 ⟨g, y, none⟩ n cap (cb l).toArray T' (cb ((tl s a).take n)) Tryd.underlying43 (by kernel_rfl) hb
      (by rw [hcl]; exact (Nat.min_eq_left hnm).symm) (fun j v hj => by
        have hjn : j < n := by
          have := (List.getElem?_eq_some_iff.1 hj).1
          rw [hcl] at this; exact this
        rw [addr_add, hI.cell (by omega)]
        unfold cb at hj
        rw [List.getElem?_map, List.getElem?_take_of_lt hjn, tl_get (by omega)] at hj
        exact hj) (by rw [hcl, List.size_toArray, cb_len]; exact hfit) (fun v hv => by
        unfold cb at hv
        obtain ⟨b, _, rfl⟩ := List.mem_map.1 hv
        rfl)
    rw [hcl] at hr
    refine s_eff (n : Int) hr (hK _ ?_ kp_row)
    have := setRow_heap w h (cb l).toArray (((cb l).toArray.toList.take y2 ++ cb ((tl s a).take n) ++ (cb l).toArray.toList.drop (y2 + n)).toArray) T' (0, 0) hb
    have e : (cb l).toArray.toList.take y2 ++ cb ((tl s a).take n) ++ (cb l).toArray.toList.drop (y2 + n) = cb (l.take y2 ++ (tl s a).take n ++ l.drop (y2 + n)) := by
      unfold cb
      simp only [List.map_append, List.map_take, List.map_drop]
    rw [e] at this ⊢
    exact this
theorem take_laid {l e : List UInt8} {c n : Nat} (he : e.length = n) (h : c + n ≤ l.length) : (l.take c ++ e ++ l.drop (c + n)).take (c + n) = l.take c ++ e ∧ (l.take c ++ e ++ l.drop (c + n)).length = l.length := by
  have h1 : (l.take c ++ e).length = c + n := by rw [List.length_append, List.length_take]; omega
  refine ⟨?_, ?_⟩
  · rw [List.take_append_of_le_length (by omega), List.take_of_length_le (by omega)]
  · rw [List.length_append, h1, List.length_drop]; omega
end Go.Proofs.YtlhhmgopfilgpaaDoor.Je
