/- Characters of a text in UTF-8 (RFC 3629) at a place; what decoding from the front and from the end gives. No statement of the set is proved here. -/
import Derived.Test.YtbmmpnjpejamaaaDoorSf
import Derived.Lib.MapLaws
import Derived.Lib.TrimUEq
import Derived.Lib.TrimU
import Derived.Shelf.Unicode.DecodeLast
namespace Go.Proofs.YtbmmpnjpejamaaaDoor.Ut
open Go Go.Proofs.YtbmmpnjpejamaaaDoor.Rx Go.Proofs.YtbmmpnjpejamaaaDoor.Pl

/-- A byte as a number; 0 beyond the end. -/
def bn (s : ByteArray) (i : Nat) : Nat := (s.data.toList.getD i 0).toNat
theorem bt_bn (s : ByteArray) (i : Nat) : bt s (i : Int) = (bn s i : Int) := by unfold bt bn; rw [Int.toNat_natCast]
theorem bn_lt (s : ByteArray) (i : Nat) : bn s i < 256 := UInt8.toNat_lt _
theorem bn_end {s : ByteArray} {i : Nat} (h : s.size ≤ i) : bn s i = 0 := by
  have := bt_end h
  rw [bt_bn] at this; omega
/-- The byte does not begin a character. -/
abbrev cont (b : Nat) : Prop := b / 64 = 2
/-- At place i stands a character of n bytes, r. -/
def ChA (s : ByteArray) (i n r : Nat) : Prop :=
  (n = 1 ∧ i < s.size ∧ bn s i < 128 ∧ r = bn s i) ∨
  (n = 2 ∧ i + 1 < s.size ∧ bn s i / 32 = 6 ∧ bn s (i + 1) / 64 = 2 ∧ r = bn s i % 32 * 64 + bn s (i + 1) % 64 ∧ 128 ≤ r) ∨
  (n = 3 ∧ i + 2 < s.size ∧ bn s i / 16 = 14 ∧ bn s (i + 1) / 64 = 2 ∧ bn s (i + 2) / 64 = 2 ∧ r = bn s i % 16 * 4096 + bn s (i + 1) % 64 * 64 + bn s (i + 2) % 64 ∧ 2048 ≤ r ∧ (r < 55296 ∨ 57344 ≤ r)) ∨
  (n = 4 ∧ i + 3 < s.size ∧ bn s i / 8 = 30 ∧ bn s (i + 1) / 64 = 2 ∧ bn s (i + 2) / 64 = 2 ∧ bn s (i + 3) / 64 = 2 ∧ r = bn s i % 8 * 262144 + bn s (i + 1) % 64 * 4096 + bn s (i + 2) % 64 * 64 + bn s (i + 3) % 64 ∧ 65536 ≤ r ∧ r ≤ 1114111)
theorem ChA.width {s : ByteArray} {i n r : Nat} (h : ChA s i n r) : 1 ≤ n ∧ n ≤ 4 ∧ i + n ≤ s.size := by
  unfold ChA at h; omega
theorem ChA.head {s : ByteArray} {i n r : Nat} (h : ChA s i n r) : ¬ cont (bn s i) := by
  unfold ChA at h; omega
theorem ChA.big {s : ByteArray} {i n r : Nat} (h : ChA s i n r) (hn : 2 ≤ n) : 192 ≤ bn s i ∧ 128 ≤ r := by
  unfold ChA at h; omega
theorem ChA.small {s : ByteArray} {i n r : Nat} (h : ChA s i n r) (hn : n = 1) : bn s i < 128 ∧ r = bn s i := by
  unfold ChA at h; omega
theorem ChA.one_iff {s : ByteArray} {i n r : Nat} (h : ChA s i n r) : r < 128 ↔ n = 1 := by
  unfold ChA at h; omega
theorem ChA.rest {s : ByteArray} {i n r k : Nat} (h : ChA s i n r) (h0 : 0 < k) (hk : k < n) : cont (bn s (i + k)) := by
  unfold ChA at h
  have : k = 1 ∨ k = 2 ∨ k = 3 := by omega
  rcases this with rfl | rfl | rfl <;> omega
theorem ChA.uniq {s : ByteArray} {i n r n' r' : Nat} (h : ChA s i n r) (h' : ChA s i n' r') : n = n' ∧ r = r' := by
  unfold ChA at h h'; omega
theorem ChA.moved {s t : ByteArray} {i j n r : Nat} (h : ChA s i n r) (hz : j + n ≤ t.size) (hb : ∀ k, k < n → bn t (j + k) = bn s (i + k)) : ChA t j n r := by
  have h0 := fun h : 0 < n => hb 0 h
  have h1 := fun h : 1 < n => hb 1 h
  have h2 := fun h : 2 < n => hb 2 h
  have h3 := fun h : 3 < n => hb 3 h
  simp only [Nat.add_zero] at h0
  unfold ChA at h ⊢
  rcases h with ⟨rfl, a1, a2, a3⟩ | ⟨rfl, a1, a2, a3, a4, a5⟩ | ⟨rfl, a1, a2, a3, a4, a5, a6, a7⟩ | ⟨rfl, a1, a2, a3, a4, a5, a6, a7, a8⟩
  · refine .inl ⟨rfl, by omega, ?_⟩
    rw [h0 (by decide)]; exact ⟨a2, a3⟩
  · refine .inr (.inl ⟨rfl, by omega, ?_⟩)
    rw [h0 (by decide), h1 (by decide)]; exact ⟨a2, a3, a4, a5⟩
  · refine .inr (.inr (.inl ⟨rfl, by omega, ?_⟩))
    rw [h0 (by decide), h1 (by decide), h2 (by decide)]; exact ⟨a2, a3, a4, a5, a6, a7⟩
  · refine .inr (.inr (.inr ⟨rfl, by omega, ?_⟩))
    rw [h0 (by decide), h1 (by decide), h2 (by decide), h3 (by decide)]; exact ⟨a2, a3, a4, a5, a6, a7, a8⟩
theorem ChA.len {s : ByteArray} {i n r : Nat} (h : ChA s i n r) : n = if r < 128 then 1 else if r < 2048 then 2 else if r < 65536 then 3 else 4 := by
  have l1 := bn_lt s i
  unfold ChA at h
  rcases h with ⟨rfl, a1, a2, a3⟩ | ⟨rfl, a1, a2, a3, a4, a5⟩ | ⟨rfl, a1, a2, a3, a4, a5, a6, a7⟩ | ⟨rfl, a1, a2, a3, a4, a5, a6, a7, a8⟩
  · rw [if_pos (by omega)]
  · rw [if_neg (by omega), if_pos (by omega)]
  · rw [if_neg (by omega), if_neg (by omega), if_pos (by omega)]
  · rw [if_neg (by omega), if_neg (by omega), if_neg (by omega)]
/-- The bytes of a character are the character's. -/
theorem ChA.same {s t : ByteArray} {i j n n' r : Nat} (h : ChA s i n r) (h' : ChA t j n' r) : n = n' ∧ ∀ k, k < n → bn s (i + k) = bn t (j + k) := by
  have e : n = n' := h.len.trans h'.len.symm
  subst e
  refine ⟨rfl, fun k hk => ?_⟩
  unfold ChA at h h'
  rcases h with ⟨rfl, a1, a2, a3⟩ | ⟨rfl, a1, a2, a3, a4, a5⟩ | ⟨rfl, a1, a2, a3, a4, a5, a6, a7⟩ | ⟨rfl, a1, a2, a3, a4, a5, a6, a7, a8⟩
  · have : k = 0 := by omega
    subst this; simp only [Nat.add_zero]; omega
  · obtain ⟨b1, b2, b3, b4, b5⟩ : j + 1 < t.size ∧ bn t j / 32 = 6 ∧ bn t (j + 1) / 64 = 2 ∧ r = bn t j % 32 * 64 + bn t (j + 1) % 64 ∧ 128 ≤ r := by omega
    have : k = 0 ∨ k = 1 := by omega
    rcases this with rfl | rfl
    · simp only [Nat.add_zero]; omega
    · omega
  · obtain ⟨b1, b2, b3, b4, b5⟩ : j + 2 < t.size ∧ bn t j / 16 = 14 ∧ bn t (j + 1) / 64 = 2 ∧ bn t (j + 2) / 64 = 2 ∧ r = bn t j % 16 * 4096 + bn t (j + 1) % 64 * 64 + bn t (j + 2) % 64 := by omega
    have : k = 0 ∨ k = 1 ∨ k = 2 := by omega
    rcases this with rfl | rfl | rfl
    · simp only [Nat.add_zero]; omega
    · omega
    · omega
  · obtain ⟨b1, b2, b3, b4, b5, b6⟩ : j + 3 < t.size ∧ bn t j / 8 = 30 ∧ bn t (j + 1) / 64 = 2 ∧ bn t (j + 2) / 64 = 2 ∧ bn t (j + 3) / 64 = 2 ∧ r = bn t j % 8 * 262144 + bn t (j + 1) % 64 * 4096 + bn t (j + 2) % 64 * 64 + bn t (j + 3) % 64 := by omega
    have : k = 0 ∨ k = 1 ∨ k = 2 ∨ k = 3 := by omega
    rcases this with rfl | rfl | rfl | rfl
    · simp only [Nat.add_zero]; omega
    · omega
    · omega
    · omega
/-- What decoding at a place gives. -/
def dc (s : ByteArray) (i : Nat) : Nat × Nat := Lib.decodeN (s.size - i) (bn s i) (bn s (i + 1)) (bn s (i + 2)) (bn s (i + 3))
theorem decode_dc (s : ByteArray) (i : Nat) : Utf8.decode s i = dc s i := by
  rw [Lib.decode_N]; rfl
theorem dc_cases {s : ByteArray} {i : Nat} (hi : i < s.size) : ChA s i (dc s i).2 (dc s i).1 ∨ dc s i = (65533, 1) := by
  unfold dc ChA
  rcases Lib.decodeN_shape (s.size - i) (bn s i) (bn s (i + 1)) (bn s (i + 2)) (bn s (i + 3)) with ⟨h, e⟩ | ⟨h1, h2, h3, h4, e⟩ | ⟨h1, h2, h3, h4, h5, h6, e⟩ | ⟨h1, h2, h3, h4, h5, h6, h7, e⟩ | e
  · rw [e]; exact .inl (.inl ⟨rfl, hi, h, rfl⟩)
  · rw [e]; exact .inl (.inr (.inl ⟨rfl, by omega, h1, h3, rfl, h4⟩))
  · rw [e]; exact .inl (.inr (.inr (.inl ⟨rfl, by omega, h1, h3, h4, rfl, h5, h6⟩)))
  · rw [e]; exact .inl (.inr (.inr (.inr ⟨rfl, by omega, h1, h3, h4, h5, rfl, h6, h7⟩)))
  · exact .inr e
theorem dc_of {s : ByteArray} {i n r : Nat} (h : ChA s i n r) : dc s i = (r, n) := by
  unfold dc Lib.decodeN
  unfold ChA at h
  rcases h with ⟨rfl, a1, a2, rfl⟩ | ⟨rfl, a1, a2, a3, rfl, a5⟩ | ⟨rfl, a1, a2, a3, a4, rfl, a6, a7⟩ | ⟨rfl, a1, a2, a3, a4, a5, rfl, a7, a8⟩
  · rw [if_pos a2]
  · rw [if_neg (by omega), if_pos ⟨a2, by omega, a3⟩, if_pos (by omega)]
  · rw [if_neg (by omega), if_neg (by omega), if_pos ⟨a2, ⟨by omega, a3⟩, by omega, a4⟩, if_pos (by omega)]
  · rw [if_neg (by omega), if_neg (by omega), if_neg (by omega), if_pos ⟨a2, ⟨by omega, a3⟩, ⟨by omega, a4⟩, by omega, a5⟩, if_pos (by omega)]
theorem dc_width {s : ByteArray} {i : Nat} (hi : i < s.size) : 1 ≤ (dc s i).2 ∧ i + (dc s i).2 ≤ s.size := by
  rcases dc_cases hi with h | h
  · have := h.width; omega
  · rw [h]; simp only; omega
theorem dc_low {s : ByteArray} {i : Nat} (h : bn s i < 128) : dc s i = (bn s i, 1) := by
  unfold dc Lib.decodeN; rw [if_pos h]
theorem go_dc {s : ByteArray} (h : 0 < s.size) : Lib.decodeGo s = dc s 0 := by
  unfold Lib.decodeGo; rw [if_neg (by omega), decode_dc]
theorem sfx_bn (s : ByteArray) (i j : Nat) : bn (sfx s i) j = bn s (i + j) := by
  have := sfx_bt s i j
  rw [bt_bn, bt_bn] at this; omega
theorem sfx_dc (s : ByteArray) (i j : Nat) : dc (sfx s i) j = dc s (i + j) := by
  unfold dc
  rw [sfx_size, sfx_bn, sfx_bn, sfx_bn, sfx_bn, Nat.sub_sub]
  rfl
/-- The first e bytes. -/
def pfx (s : ByteArray) (e : Nat) : ByteArray := s.extract 0 e
theorem pfx_size {s : ByteArray} {e : Nat} (h : e ≤ s.size) : (pfx s e).size = e := size_take h
theorem pfx_bn {s : ByteArray} {e i : Nat} (h : e ≤ s.size) (hi : i < e) : bn (pfx s e) i = bn s i := by
  have := bt_extract (s := s) (a := 0) (b := e) (j := i) h (by omega)
  rw [bt_bn, bt_bn, Nat.zero_add] at this
  unfold pfx; omega
theorem pfx_pfx {s : ByteArray} {e f : Nat} (h : f ≤ e) : pfx (pfx s e) f = pfx s f := by
  unfold pfx
  ext1
  simp only [ByteArray.data_extract, Array.extract_extract]
  congr 1
  simp only [Nat.zero_add]
  omega
theorem pfx_all (s : ByteArray) : pfx s s.size = s := ByteArray.extract_zero_size
theorem ChA.pfx {s : ByteArray} {i n r e : Nat} (he : e ≤ s.size) (h : i + n ≤ e) : ChA (pfx s e) i n r ↔ ChA s i n r := by
  constructor
  · intro g
    exact ChA.moved g (by omega) fun k hk => (pfx_bn he (by omega)).symm
  · intro g
    exact ChA.moved g (by rw [pfx_size he]; exact h) fun k hk => pfx_bn he (by omega)
/-- What decoding from the end gives. -/
def dl (s : ByteArray) : Nat × Nat := Lib.decodeLastL s.data.toList
theorem getD_bn (s : ByteArray) (i : Nat) : (s.data.toList.getD i 0).toNat = bn s i := rfl
theorem last_start {s : ByteArray} : Lib.lastStart s.data.toList = if s.size < 2 then 0 else if ¬ cont (bn s (s.size - 2)) then s.size - 2 else if s.size < 3 then 0 else if ¬ cont (bn s (s.size - 3)) then s.size - 3 else if s.size < 4 then 0 else if ¬ cont (bn s (s.size - 4)) then s.size - 4 else if s.size < 5 then 0 else s.size - 5 := by
  have hl : s.data.toList.length = s.size := by simp
  unfold Lib.lastStart
  simp only [hl, Lib.runeStartB, getD_bn, bne_iff_ne, ne_eq]
theorem dl_eq {s : ByteArray} (h : 0 < s.size) : dl s = if bn s (s.size - 1) < 128 then (bn s (s.size - 1), 1) else if Lib.lastStart s.data.toList + (dc s (Lib.lastStart s.data.toList)).2 = s.size then dc s (Lib.lastStart s.data.toList) else (65533, 1) := by
  have hl : s.data.toList.length = s.size := by simp
  have hne : s.data.toList ≠ [] := by intro e; rw [e] at hl; simp at hl; omega
  unfold dl Lib.decodeLastL
  rw [if_neg hne, hl]
  simp only [getD_bn, Lib.decodeL_drop, decode_dc]
  rfl
/-- A character that stands at the end is what decoding from the end gives. -/
theorem dl_of {s : ByteArray} {a n r : Nat} (h : ChA s a n r) (he : a + n = s.size) : dl s = (r, n) := by
  have hw := h.width
  rw [dl_eq (by omega)]
  rcases Nat.lt_or_ge n 2 with h2 | h2
  · have h1 : n = 1 := by omega
    obtain ⟨b1, b2⟩ := h.small h1
    have e : s.size - 1 = a := by omega
    rw [e, if_pos b1, h1, b2]
  · have hc : cont (bn s (s.size - 1)) := by
      have := h.rest (k := n - 1) (by omega) (by omega)
      rw [show a + (n - 1) = s.size - 1 by omega] at this; exact this
    rw [if_neg (by omega)]
    have hs : Lib.lastStart s.data.toList = a := by
      rw [last_start, if_neg (by omega)]
      have hh := h.head
      have hr := fun k (h0 : 0 < k) (hk : k < n) => h.rest h0 hk
      have : n = 2 ∨ n = 3 ∨ n = 4 := by omega
      rcases this with rfl | rfl | rfl
      · rw [if_pos (by rw [show s.size - 2 = a by omega]; exact hh)]; omega
      · have c1 := hr 1 (by omega) (by omega)
        rw [if_neg (by rw [show s.size - 2 = a + 1 by omega]; exact fun x => x c1), if_neg (by omega), if_pos (by rw [show s.size - 3 = a by omega]; exact hh)]; omega
      · have c1 := hr 1 (by omega) (by omega)
        have c2 := hr 2 (by omega) (by omega)
        rw [if_neg (by rw [show s.size - 2 = a + 2 by omega]; exact fun x => x c2), if_neg (by omega), if_neg (by rw [show s.size - 3 = a + 1 by omega]; exact fun x => x c1), if_neg (by omega), if_pos (by rw [show s.size - 4 = a by omega]; exact hh)]; omega
    rw [hs, dc_of h, if_pos he]
theorem last_lt {s : ByteArray} (h : 0 < s.size) : Lib.lastStart s.data.toList < s.size := by
  rw [last_start]
  repeat' split
  all_goals omega
theorem dl_cases {s : ByteArray} (h : 0 < s.size) : ((dl s).2 ≤ s.size ∧ ChA s (s.size - (dl s).2) (dl s).2 (dl s).1) ∨ dl s = (65533, 1) := by
  have hlt := last_lt h
  rw [dl_eq h]
  split
  · rename_i h1
    refine .inl ⟨h, .inl ⟨rfl, by omega, h1, rfl⟩⟩
  · split
    · rename_i h2
      rcases dc_cases hlt with h3 | h3
      · refine .inl ⟨by omega, ?_⟩
        rw [show s.size - (dc s (Lib.lastStart s.data.toList)).2 = Lib.lastStart s.data.toList by omega]
        exact h3
      · exact .inr h3
    · exact .inr rfl
theorem dl_width {s : ByteArray} (h : 0 < s.size) : 1 ≤ (dl s).2 ∧ (dl s).2 ≤ s.size := by
  rcases dl_cases h with h1 | h1
  · exact ⟨h1.2.width.1, h1.1⟩
  · rw [h1]; simp only; omega
theorem dl_rune {s : ByteArray} (h : 0 < s.size) : (dl s).1 ≤ 1114111 := by
  rcases dl_cases h with h1 | h1
  · have h2 := h1.2
    have := bn_lt s (s.size - (dl s).2)
    unfold ChA at h2
    omega
  · rw [h1]; simp only; omega
theorem dc_rune {s : ByteArray} {i : Nat} (h : i < s.size) : (dc s i).1 ≤ 1114111 := by
  rcases dc_cases h with h1 | h1
  · have h2 := h1
    have := bn_lt s i
    unfold ChA at h2
    omega
  · rw [h1]; simp only; omega
/-- No character that stands in a text is cut by going back from the end: with one at the front that goes up to n, a part of at least n bytes keeps at least n, or nothing. -/
theorem keep_front {s : ByteArray} {n r e : Nat} (h : ChA s 0 n r) (he : e ≤ s.size) (hn : n ≤ e) : e - (dl (pfx s e)).2 = 0 ∨ n ≤ e - (dl (pfx s e)).2 := by
  have hw := h.width
  have hz := pfx_size he
  rcases Nat.lt_or_ge (e - (dl (pfx s e)).2) n with hlt | hge
  · left
    rcases Nat.eq_zero_or_pos (e - (dl (pfx s e)).2) with h0 | h0
    · exact h0
    exfalso
    have h1 : ChA (pfx s e) 0 n r := (ChA.pfx he (by omega)).2 h
    rcases Nat.lt_or_ge n e with hne | hne
    · -- a longer one
      have : 2 ≤ (dl (pfx s e)).2 := by omega
      rcases dl_cases (s := pfx s e) (by omega) with h2 | h2
      · have h3 := (h2.2).head
        rw [hz] at h3
        have h4 := h1.rest (k := e - (dl (pfx s e)).2) h0 hlt
        rw [Nat.zero_add] at h4
        exact h3 h4
      · rw [h2] at this; simp only at this; omega
    · have : dl (pfx s e) = (r, n) := dl_of (a := 0) h1 (by omega)
      rw [this] at h0; simp only at h0; omega
  · exact .inr hge
end Go.Proofs.YtbmmpnjpejamaaaDoor.Ut
