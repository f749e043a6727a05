/- Characters and escapes, plain, and the reference's Unquote (the texts Ut Hl Up Uq2 Tl of this repo put together). No statement of the set is proved here. -/
import Derived.Test.YtkpnomdmnhhaoaaGreatDoorMA
import Derived.Lib.MapLaws
import Derived.Lib.TrimUEq
import Derived.Lib.TrimU
import Derived.Shelf.Unicode.DecodeLast
import Derived.Test.YtkpnomdmnhhaoaaGreatDoorTr
import Derived.Test.YtkpnomdmnhhaoaaGreatDoorRk
import Derived.Test.YtkpnomdmnhhaoaaGreatDoorMD
namespace Go.Proofs.YtkpnomdmnhhaoaaGreatDoor.Ut
open Go Go.Proofs.YtkpnomdmnhhaoaaGreatDoor.Rx Go.Proofs.YtkpnomdmnhhaoaaGreatDoor.Pl

/-- A byte as a number; 0 beyond the end. -/
def bn (s : ByteArray) (i : Nat) : Nat := (s.data.toList.getD i 0).toNat
theorem bt_bn (s : ByteArray) (i : Nat) : bt s (i : Int) = (bn s i : Int) := by unfold bt bn; rw [Int.toNat_natCast]
theorem bn_lt (s : ByteArray) (i : Nat) : bn s i < 256 := UInt8.toNat_lt _
theorem bn_end {s : ByteArray} {i : Nat} (h : s.size ≤ i) : bn s i = 0 := by
  have := bt_end h
  rw [bt_bn] at this; omega
/-- The byte does not begin a character. -/
abbrev cont (b : Nat) : Prop := b / 64 = 2
/-- At place i stands a character of n bytes, r. -/
def ChA (s : ByteArray) (i n r : Nat) : Prop :=
  (n = 1 ∧ i < s.size ∧ bn s i < 128 ∧ r = bn s i) ∨
  (n = 2 ∧ i + 1 < s.size ∧ bn s i / 32 = 6 ∧ bn s (i + 1) / 64 = 2 ∧ r = bn s i % 32 * 64 + bn s (i + 1) % 64 ∧ 128 ≤ r) ∨
  (n = 3 ∧ i + 2 < s.size ∧ bn s i / 16 = 14 ∧ bn s (i + 1) / 64 = 2 ∧ bn s (i + 2) / 64 = 2 ∧ r = bn s i % 16 * 4096 + bn s (i + 1) % 64 * 64 + bn s (i + 2) % 64 ∧ 2048 ≤ r ∧ (r < 55296 ∨ 57344 ≤ r)) ∨
  (n = 4 ∧ i + 3 < s.size ∧ bn s i / 8 = 30 ∧ bn s (i + 1) / 64 = 2 ∧ bn s (i + 2) / 64 = 2 ∧ bn s (i + 3) / 64 = 2 ∧ r = bn s i % 8 * 262144 + bn s (i + 1) % 64 * 4096 + bn s (i + 2) % 64 * 64 + bn s (i + 3) % 64 ∧ 65536 ≤ r ∧ r ≤ 1114111)
theorem ChA.width {s : ByteArray} {i n r : Nat} (h : ChA s i n r) : 1 ≤ n ∧ n ≤ 4 ∧ i + n ≤ s.size := by
  unfold ChA at h; omega
theorem ChA.head {s : ByteArray} {i n r : Nat} (h : ChA s i n r) : ¬ cont (bn s i) := by
  unfold ChA at h; omega
theorem ChA.big {s : ByteArray} {i n r : Nat} (h : ChA s i n r) (hn : 2 ≤ n) : 192 ≤ bn s i ∧ 128 ≤ r := by
  unfold ChA at h; omega
theorem ChA.small {s : ByteArray} {i n r : Nat} (h : ChA s i n r) (hn : n = 1) : bn s i < 128 ∧ r = bn s i := by
  unfold ChA at h; omega
theorem ChA.one_iff {s : ByteArray} {i n r : Nat} (h : ChA s i n r) : r < 128 ↔ n = 1 := by
  unfold ChA at h; omega
theorem ChA.rest {s : ByteArray} {i n r k : Nat} (h : ChA s i n r) (h0 : 0 < k) (hk : k < n) : cont (bn s (i + k)) := by
  unfold ChA at h
  have : k = 1 ∨ k = 2 ∨ k = 3 := by omega
  rcases this with rfl | rfl | rfl <;> omega
theorem ChA.uniq {s : ByteArray} {i n r n' r' : Nat} (h : ChA s i n r) (h' : ChA s i n' r') : n = n' ∧ r = r' := by
  unfold ChA at h h'; omega
theorem ChA.moved {s t : ByteArray} {i j n r : Nat} (h : ChA s i n r) (hz : j + n ≤ t.size) (hb : ∀ k, k < n → bn t (j + k) = bn s (i + k)) : ChA t j n r := by
  have h0 := fun h : 0 < n => hb 0 h
  have h1 := fun h : 1 < n => hb 1 h
  have h2 := fun h : 2 < n => hb 2 h
  have h3 := fun h : 3 < n => hb 3 h
  simp only [Nat.add_zero] at h0
  unfold ChA at h ⊢
  rcases h with ⟨rfl, a1, a2, a3⟩ | ⟨rfl, a1, a2, a3, a4, a5⟩ | ⟨rfl, a1, a2, a3, a4, a5, a6, a7⟩ | ⟨rfl, a1, a2, a3, a4, a5, a6, a7, a8⟩
  · refine .inl ⟨rfl, by omega, ?_⟩
    rw [h0 (by decide)]; exact ⟨a2, a3⟩
  · refine .inr (.inl ⟨rfl, by omega, ?_⟩)
    rw [h0 (by decide), h1 (by decide)]; exact ⟨a2, a3, a4, a5⟩
  · refine .inr (.inr (.inl ⟨rfl, by omega, ?_⟩))
    rw [h0 (by decide), h1 (by decide), h2 (by decide)]; exact ⟨a2, a3, a4, a5, a6, a7⟩
  · refine .inr (.inr (.inr ⟨rfl, by omega, ?_⟩))
    rw [h0 (by decide), h1 (by decide), h2 (by decide), h3 (by decide)]; exact ⟨a2, a3, a4, a5, a6, a7, a8⟩
theorem ChA.len {s : ByteArray} {i n r : Nat} (h : ChA s i n r) : n = if r < 128 then 1 else if r < 2048 then 2 else if r < 65536 then 3 else 4 := by
  have l1 := bn_lt s i
  unfold ChA at h
  rcases h with ⟨rfl, a1, a2, a3⟩ | ⟨rfl, a1, a2, a3, a4, a5⟩ | ⟨rfl, a1, a2, a3, a4, a5, a6, a7⟩ | ⟨rfl, a1, a2, a3, a4, a5, a6, a7, a8⟩
  · rw [if_pos (by omega)]
  · rw [if_neg (by omega), if_pos (by omega)]
  · rw [if_neg (by omega), if_neg (by omega), if_pos (by omega)]
  · rw [if_neg (by omega), if_neg (by omega), if_neg (by omega)]
/-- The bytes of a character are the character's. -/
theorem ChA.same {s t : ByteArray} {i j n n' r : Nat} (h : ChA s i n r) (h' : ChA t j n' r) : n = n' ∧ ∀ k, k < n → bn s (i + k) = bn t (j + k) := by
  have e : n = n' := h.len.trans h'.len.symm
  subst e
  refine ⟨rfl, fun k hk => ?_⟩
  unfold ChA at h h'
  rcases h with ⟨rfl, a1, a2, a3⟩ | ⟨rfl, a1, a2, a3, a4, a5⟩ | ⟨rfl, a1, a2, a3, a4, a5, a6, a7⟩ | ⟨rfl, a1, a2, a3, a4, a5, a6, a7, a8⟩
  · have : k = 0 := by omega
    subst this; simp only [Nat.add_zero]; omega
  · obtain ⟨b1, b2, b3, b4, b5⟩ : j + 1 < t.size ∧ bn t j / 32 = 6 ∧ bn t (j + 1) / 64 = 2 ∧ r = bn t j % 32 * 64 + bn t (j + 1) % 64 ∧ 128 ≤ r := by omega
    have : k = 0 ∨ k = 1 := by omega
    rcases this with rfl | rfl
    · simp only [Nat.add_zero]; omega
    · omega
  · obtain ⟨b1, b2, b3, b4, b5⟩ : j + 2 < t.size ∧ bn t j / 16 = 14 ∧ bn t (j + 1) / 64 = 2 ∧ bn t (j + 2) / 64 = 2 ∧ r = bn t j % 16 * 4096 + bn t (j + 1) % 64 * 64 + bn t (j + 2) % 64 := by omega
    have : k = 0 ∨ k = 1 ∨ k = 2 := by omega
    rcases this with rfl | rfl | rfl
    · simp only [Nat.add_zero]; omega
    · omega
    · omega
  · obtain ⟨b1, b2, b3, b4, b5, b6⟩ : j + 3 < t.size ∧ bn t j / 8 = 30 ∧ bn t (j + 1) / 64 = 2 ∧ bn t (j + 2) / 64 = 2 ∧ bn t (j + 3) / 64 = 2 ∧ r = bn t j % 8 * 262144 + bn t (j + 1) % 64 * 4096 + bn t (j + 2) % 64 * 64 + bn t (j + 3) % 64 := by omega
    have : k = 0 ∨ k = 1 ∨ k = 2 ∨ k = 3 := by omega
    rcases this with rfl | rfl | rfl | rfl
    · simp only [Nat.add_zero]; omega
    · omega
    · omega
    · omega
/-- What decoding at a place gives. -/
def dc (s : ByteArray) (i : Nat) : Nat × Nat := Lib.decodeN (s.size - i) (bn s i) (bn s (i + 1)) (bn s (i + 2)) (bn s (i + 3))
theorem decode_dc (s : ByteArray) (i : Nat) : Utf8.decode s i = dc s i := by
  rw [Lib.decode_N]; rfl
theorem dc_cases {s : ByteArray} {i : Nat} (hi : i < s.size) : ChA s i (dc s i).2 (dc s i).1 ∨ dc s i = (65533, 1) := by
  unfold dc ChA
  rcases Lib.decodeN_shape (s.size - i) (bn s i) (bn s (i + 1)) (bn s (i + 2)) (bn s (i + 3)) with ⟨h, e⟩ | ⟨h1, h2, h3, h4, e⟩ | ⟨h1, h2, h3, h4, h5, h6, e⟩ | ⟨h1, h2, h3, h4, h5, h6, h7, e⟩ | e
  · rw [e]; exact .inl (.inl ⟨rfl, hi, h, rfl⟩)
  · rw [e]; exact .inl (.inr (.inl ⟨rfl, by omega, h1, h3, rfl, h4⟩))
  · rw [e]; exact .inl (.inr (.inr (.inl ⟨rfl, by omega, h1, h3, h4, rfl, h5, h6⟩)))
  · rw [e]; exact .inl (.inr (.inr (.inr ⟨rfl, by omega, h1, h3, h4, h5, rfl, h6, h7⟩)))
  · exact .inr e
theorem dc_of {s : ByteArray} {i n r : Nat} (h : ChA s i n r) : dc s i = (r, n) := by
  unfold dc Lib.decodeN
  unfold ChA at h
  rcases h with ⟨rfl, a1, a2, rfl⟩ | ⟨rfl, a1, a2, a3, rfl, a5⟩ | ⟨rfl, a1, a2, a3, a4, rfl, a6, a7⟩ | ⟨rfl, a1, a2, a3, a4, a5, rfl, a7, a8⟩
  · rw [if_pos a2]
  · rw [if_neg (by omega), if_pos ⟨a2, by omega, a3⟩, if_pos (by omega)]
  · rw [if_neg (by omega), if_neg (by omega), if_pos ⟨a2, ⟨by omega, a3⟩, by omega, a4⟩, if_pos (by omega)]
  · rw [if_neg (by omega), if_neg (by omega), if_neg (by omega), if_pos ⟨a2, ⟨by omega, a3⟩, ⟨by omega, a4⟩, by omega, a5⟩, if_pos (by omega)]
theorem dc_width {s : ByteArray} {i : Nat} (hi : i < s.size) : 1 ≤ (dc s i).2 ∧ i + (dc s i).2 ≤ s.size := by
  rcases dc_cases hi with h | h
  · have := h.width; omega
  · rw [h]; simp only; omega
theorem dc_low {s : ByteArray} {i : Nat} (h : bn s i < 128) : dc s i = (bn s i, 1) := by
  unfold dc Lib.decodeN; rw [if_pos h]
theorem go_dc {s : ByteArray} (h : 0 < s.size) : Lib.decodeGo s = dc s 0 := by
  unfold Lib.decodeGo; rw [if_neg (by omega), decode_dc]
theorem sfx_bn (s : ByteArray) (i j : Nat) : bn (sfx s i) j = bn s (i + j) := by
  have := sfx_bt s i j
  rw [bt_bn, bt_bn] at this; omega
theorem sfx_dc (s : ByteArray) (i j : Nat) : dc (sfx s i) j = dc s (i + j) := by
  unfold dc
  rw [sfx_size, sfx_bn, sfx_bn, sfx_bn, sfx_bn, Nat.sub_sub]
  rfl
/-- The first e bytes. -/
def pfx (s : ByteArray) (e : Nat) : ByteArray := s.extract 0 e
theorem pfx_size {s : ByteArray} {e : Nat} (h : e ≤ s.size) : (pfx s e).size = e := size_take h
theorem pfx_bn {s : ByteArray} {e i : Nat} (h : e ≤ s.size) (hi : i < e) : bn (pfx s e) i = bn s i := by
  have := bt_extract (s := s) (a := 0) (b := e) (j := i) h (by omega)
  rw [bt_bn, bt_bn, Nat.zero_add] at this
  unfold pfx; omega
theorem pfx_pfx {s : ByteArray} {e f : Nat} (h : f ≤ e) : pfx (pfx s e) f = pfx s f := by
  unfold pfx
  ext1
  simp only [ByteArray.data_extract, Array.extract_extract]
  congr 1
  simp only [Nat.zero_add]
  omega
theorem pfx_all (s : ByteArray) : pfx s s.size = s := ByteArray.extract_zero_size
theorem ChA.pfx {s : ByteArray} {i n r e : Nat} (he : e ≤ s.size) (h : i + n ≤ e) : ChA (pfx s e) i n r ↔ ChA s i n r := by
  constructor
  · intro g
    exact ChA.moved g (by omega) fun k hk => (pfx_bn he (by omega)).symm
  · intro g
    exact ChA.moved g (by rw [pfx_size he]; exact h) fun k hk => pfx_bn he (by omega)
/-- What decoding from the end gives. -/
def dl (s : ByteArray) : Nat × Nat := Lib.decodeLastL s.data.toList
theorem getD_bn (s : ByteArray) (i : Nat) : (s.data.toList.getD i 0).toNat = bn s i := rfl
theorem last_start {s : ByteArray} : Lib.lastStart s.data.toList = if s.size < 2 then 0 else if ¬ cont (bn s (s.size - 2)) then s.size - 2 else if s.size < 3 then 0 else if ¬ cont (bn s (s.size - 3)) then s.size - 3 else if s.size < 4 then 0 else if ¬ cont (bn s (s.size - 4)) then s.size - 4 else if s.size < 5 then 0 else s.size - 5 := by
  have hl : s.data.toList.length = s.size := by simp
  unfold Lib.lastStart
  simp only [hl, Lib.runeStartB, getD_bn, bne_iff_ne, ne_eq]
theorem dl_eq {s : ByteArray} (h : 0 < s.size) : dl s = if bn s (s.size - 1) < 128 then (bn s (s.size - 1), 1) else if Lib.lastStart s.data.toList + (dc s (Lib.lastStart s.data.toList)).2 = s.size then dc s (Lib.lastStart s.data.toList) else (65533, 1) := by
  have hl : s.data.toList.length = s.size := by simp
  have hne : s.data.toList ≠ [] := by intro e; rw [e] at hl; simp at hl; omega
  unfold dl Lib.decodeLastL
  rw [if_neg hne, hl]
  simp only [getD_bn, Lib.decodeL_drop, decode_dc]
  rfl
/-- A character that stands at the end is what decoding from the end gives. -/
theorem dl_of {s : ByteArray} {a n r : Nat} (h : ChA s a n r) (he : a + n = s.size) : dl s = (r, n) := by
  have hw := h.width
  rw [dl_eq (by omega)]
  rcases Nat.lt_or_ge n 2 with h2 | h2
  · have h1 : n = 1 := by omega
    obtain ⟨b1, b2⟩ := h.small h1
    have e : s.size - 1 = a := by omega
    rw [e, if_pos b1, h1, b2]
  · have hc : cont (bn s (s.size - 1)) := by
      have := h.rest (k := n - 1) (by omega) (by omega)
      rw [show a + (n - 1) = s.size - 1 by omega] at this; exact this
    rw [if_neg (by omega)]
    have hs : Lib.lastStart s.data.toList = a := by
      rw [last_start, if_neg (by omega)]
      have hh := h.head
      have hr := fun k (h0 : 0 < k) (hk : k < n) => h.rest h0 hk
      have : n = 2 ∨ n = 3 ∨ n = 4 := by omega
      rcases this with rfl | rfl | rfl
      · rw [if_pos (by rw [show s.size - 2 = a by omega]; exact hh)]; omega
      · have c1 := hr 1 (by omega) (by omega)
        rw [if_neg (by rw [show s.size - 2 = a + 1 by omega]; exact fun x => x c1), if_neg (by omega), if_pos (by rw [show s.size - 3 = a by omega]; exact hh)]; omega
      · have c1 := hr 1 (by omega) (by omega)
        have c2 := hr 2 (by omega) (by omega)
        rw [if_neg (by rw [show s.size - 2 = a + 2 by omega]; exact fun x => x c2), if_neg (by omega), if_neg (by rw [show s.size - 3 = a + 1 by omega]; exact fun x => x c1), if_neg (by omega), if_pos (by rw [show s.size - 4 = a by omega]; exact hh)]; omega
    rw [hs, dc_of h, if_pos he]
theorem last_lt {s : ByteArray} (h : 0 < s.size) : Lib.lastStart s.data.toList < s.size := by
  rw [last_start]
  repeat' split
  all_goals omega
theorem dl_cases {s : ByteArray} (h : 0 < s.size) : ((dl s).2 ≤ s.size ∧ ChA s (s.size - (dl s).2) (dl s).2 (dl s).1) ∨ dl s = (65533, 1) := by
  have hlt := last_lt h
  rw [dl_eq h]
  split
  · rename_i h1
    refine .inl ⟨h, .inl ⟨rfl, by omega, h1, rfl⟩⟩
  · split
    · rename_i h2
      rcases dc_cases hlt with h3 | h3
      · refine .inl ⟨by omega, ?_⟩
        rw [show s.size - (dc s (Lib.lastStart s.data.toList)).2 = Lib.lastStart s.data.toList by omega]
        exact h3
      · exact .inr h3
    · exact .inr rfl
theorem dl_width {s : ByteArray} (h : 0 < s.size) : 1 ≤ (dl s).2 ∧ (dl s).2 ≤ s.size := by
  rcases dl_cases h with h1 | h1
  · exact ⟨h1.2.width.1, h1.1⟩
  · rw [h1]; simp only; omega
theorem dl_rune {s : ByteArray} (h : 0 < s.size) : (dl s).1 ≤ 1114111 := by
  rcases dl_cases h with h1 | h1
  · have h2 := h1.2
    have := bn_lt s (s.size - (dl s).2)
    unfold ChA at h2
    omega
  · rw [h1]; simp only; omega
theorem dc_rune {s : ByteArray} {i : Nat} (h : i < s.size) : (dc s i).1 ≤ 1114111 := by
  rcases dc_cases h with h1 | h1
  · have h2 := h1
    have := bn_lt s i
    unfold ChA at h2
    omega
  · rw [h1]; simp only; omega
/-- No character that stands in a text is cut by going back from the end: with one at the front that goes up to n, a part of at least n bytes keeps at least n, or nothing. -/
theorem keep_front {s : ByteArray} {n r e : Nat} (h : ChA s 0 n r) (he : e ≤ s.size) (hn : n ≤ e) : e - (dl (pfx s e)).2 = 0 ∨ n ≤ e - (dl (pfx s e)).2 := by
  have hw := h.width
  have hz := pfx_size he
  rcases Nat.lt_or_ge (e - (dl (pfx s e)).2) n with hlt | hge
  · left
    rcases Nat.eq_zero_or_pos (e - (dl (pfx s e)).2) with h0 | h0
    · exact h0
    exfalso
    have h1 : ChA (pfx s e) 0 n r := (ChA.pfx he (by omega)).2 h
    rcases Nat.lt_or_ge n e with hne | hne
    · -- a longer one
      have : 2 ≤ (dl (pfx s e)).2 := by omega
      rcases dl_cases (s := pfx s e) (by omega) with h2 | h2
      · have h3 := (h2.2).head
        rw [hz] at h3
        have h4 := h1.rest (k := e - (dl (pfx s e)).2) h0 hlt
        rw [Nat.zero_add] at h4
        exact h3 h4
      · rw [h2] at this; simp only at this; omega
    · have : dl (pfx s e) = (r, n) := dl_of (a := 0) h1 (by omega)
      rw [this] at h0; simp only at h0; omega
  · exact .inr hge
end Go.Proofs.YtkpnomdmnhhaoaaGreatDoor.Ut
namespace Go.Proofs.YtkpnomdmnhhaoaaGreatDoor.Ch
open Go Go.Proofs Go.RowKit Go.Proofs.YtkpnomdmnhhaoaaGreatDoor.Rx Go.Proofs.YtkpnomdmnhhaoaaGreatDoor.Tr Go.Proofs.YtkpnomdmnhhaoaaGreatDoor.Pl Go.Proofs.YtkpnomdmnhhaoaaGreatDoor.Ut

theorem high_any {n : Int} {w : World} : Calls Tryz.prog 23 #[.int .i64 n] w fun e w' => e = .returned (.bool (decide (55296 ≤ n ∧ n ≤ 56319))) ∧ w' = w := by
  refine spec_high.calls _ ?_
  unfold spec_high.t
  refine s_iteD (fun h => s_leaf ⟨rfl, ?_, rfl⟩) (fun h => s_leaf ⟨rfl, ?_, rfl⟩)
  · have : decide (n ≤ 56319) = decide (55296 ≤ n ∧ n ≤ 56319) := decide_eq_decide.2 (by omega)
    rw [← this]; rfl
  · rw [decide_eq_false (by omega)]; rfl
theorem low_any {n : Int} {w : World} : Calls Tryz.prog 24 #[.int .i64 n] w fun e w' => e = .returned (.bool (decide (56320 ≤ n ∧ n ≤ 57343))) ∧ w' = w := by
  refine spec_low.calls _ ?_
  unfold spec_low.t
  refine s_iteD (fun h => s_leaf ⟨rfl, ?_, rfl⟩) (fun h => s_leaf ⟨rfl, ?_, rfl⟩)
  · have : decide (n ≤ 57343) = decide (56320 ≤ n ∧ n ≤ 57343) := decide_eq_decide.2 (by omega)
    rw [← this]; rfl
  · rw [decide_eq_false (by omega)]; rfl
end Go.Proofs.YtkpnomdmnhhaoaaGreatDoor.Ch
namespace Go.Proofs.YtkpnomdmnhhaoaaGreatDoor.Uq
open Go Go.Proofs Go.RowKit Go.Proofs.YtkpnomdmnhhaoaaGreatDoor.Rx Go.Proofs.YtkpnomdmnhhaoaaGreatDoor.Pl Go.Proofs.YtkpnomdmnhhaoaaGreatDoor.Ut Go.Proofs.YtkpnomdmnhhaoaaGreatDoor.Bw

theorem gb_bn (s : ByteArray) (k : Nat) : (gb s k).toNat = bn s k := rfl
/-- A hexadecimal digit's value. -/
def hv (n : Nat) : Option Nat := if 48 ≤ n ∧ n ≤ 57 then some (n - 48) else if 97 ≤ n ∧ n ≤ 102 then some (n - 87) else if 65 ≤ n ∧ n ≤ 70 then some (n - 55) else none
theorem hv_lt {n d : Nat} (h : hv n = some d) : d < 16 := by
  unfold hv at h
  repeat' split at h
  all_goals first | (cases h; omega) | (cases h; done)
/-- The value of j hexadecimal digits. -/
def hx (s : ByteArray) (i : Nat) : Nat → Option Nat
  | 0 => some 0
  | j + 1 => match hx s i j, hv (bn s (i + j)) with
    | some a, some d => some (a * 16 + d)
    | _, _ => none
theorem hx_lt {s : ByteArray} {i : Nat} : ∀ {j a : Nat}, hx s i j = some a → a < 16 ^ j
  | 0, a, h => by cases h; decide
  | j + 1, a, h => by
    unfold hx at h
    split at h
    · rename_i a' d h1 h2
      cases h
      have := hx_lt h1
      have := hv_lt h2
      rw [Nat.pow_succ]; omega
    · cases h
theorem hx_some {s : ByteArray} {i j a d : Nat} (h : hx s i j = some a) (h' : hv (bn s (i + j)) = some d) : hx s i (j + 1) = some (a * 16 + d) := by unfold hx; rw [h, h']
theorem hx_bad {s : ByteArray} {i j : Nat} (h' : hv (bn s (i + j)) = none) : ∀ {m}, j < m → hx s i m = none
  | 0, h => by omega
  | m + 1, h => by
    unfold hx
    rcases Nat.lt_or_ge j m with g | g
    · rw [hx_bad h' g]
    · have : j = m := by omega
      subst this
      rw [h']
      cases hx s i j <;> rfl
/-- The number of the escape \uXXXX that stands at a place. -/
def uN (s : ByteArray) (i : Nat) : Option Nat := if i + 6 ≤ s.size ∧ bn s i = 92 ∧ bn s (i + 1) = 117 then hx s (i + 2) 4 else none
theorem uN_lt {s : ByteArray} {i n : Nat} (h : uN s i = some n) : n < 65536 ∧ i + 6 ≤ s.size := by
  unfold uN at h
  split at h
  · exact ⟨hx_lt h, (by assumption : i + 6 ≤ s.size ∧ _).1⟩
  · cases h
/-- The character that a backslash and a letter stand for. -/
def sh (b : UInt8) : UInt8 := if b = 98 then 8 else if b = 102 then 12 else if b = 110 then 10 else if b = 114 then 13 else if b = 116 then 9 else b
/-- A character's bytes. -/
def enc (n : Nat) : List UInt8 :=
  if n < 128 then [UInt8.ofNat n]
  else if n < 2048 then [UInt8.ofNat (192 + n / 64), UInt8.ofNat (128 + n % 64)]
  else if 55296 ≤ n ∧ n ≤ 57343 then [239, 191, 189]
  else if n < 65536 then [UInt8.ofNat (224 + n / 4096), UInt8.ofNat (128 + n / 64 % 64), UInt8.ofNat (128 + n % 64)]
  else [UInt8.ofNat (240 + n / 262144), UInt8.ofNat (128 + n / 4096 % 64), UInt8.ofNat (128 + n / 64 % 64), UInt8.ofNat (128 + n % 64)]
theorem enc_len (n : Nat) : 1 ≤ (enc n).length ∧ (enc n).length ≤ 4 := by
  unfold enc
  repeat' split
  all_goals simp
theorem bv_of {n : Nat} {x : Int} (h : x = (n : Int)) (hn : n < 256) : Value.int .u8 x = bv (UInt8.ofNat n) := by
  subst h
  unfold bv
  rw [UInt8.toNat_ofNat_of_lt' (by simpa using hn)]
/-- Two escapes that are a surrogate pair. -/
def pairU (s : ByteArray) (i n : Nat) : Option Nat := match uN s (i + 6) with
  | some m => if (55296 ≤ n ∧ n ≤ 56319) ∧ (56320 ≤ m ∧ m ≤ 57343) then some (65536 + n % 1024 * 1024 + m % 1024) else none
  | none => none
/-- The characters from a place on; none if a backslash stands at the end. -/
def uo (s : ByteArray) (i : Nat) : Option (List UInt8) :=
  if i < s.size then
    if bn s i ≠ 92 then (uo s (i + 1)).map (gb s i :: ·)
    else match uN s i with
      | none => if i + 1 < s.size then (uo s (i + 2)).map (sh (gb s (i + 1)) :: ·) else none
      | some n => match pairU s i n with
        | some c => (uo s (i + 12)).map (enc c ++ ·)
        | none => (uo s (i + 6)).map (enc n ++ ·)
  else some []
termination_by s.size - i
theorem uo_end {s : ByteArray} {i : Nat} (h : s.size ≤ i) : uo s i = some [] := by rw [uo, if_neg (by omega)]
theorem uo_plain {s : ByteArray} {i : Nat} (h : i < s.size) (hb : bn s i ≠ 92) : uo s i = (uo s (i + 1)).map (gb s i :: ·) := by rw [uo, if_pos h, if_pos hb]
theorem lt_of_bn {s : ByteArray} {i : Nat} (h : bn s i ≠ 0) : i < s.size := by
  rcases Nat.lt_or_ge i s.size with g | g
  · exact g
  · exact absurd (bn_end g) h
theorem uo_short {s : ByteArray} {i : Nat} (hb : bn s i = 92) (hu : uN s i = none) (h : i + 1 < s.size) : uo s i = (uo s (i + 2)).map (sh (gb s (i + 1)) :: ·) := by
  rw [uo, if_pos (by omega), if_neg (by simp [hb]), hu]
  simp only
  rw [if_pos h]
theorem uo_none {s : ByteArray} {i : Nat} (hb : bn s i = 92) (hu : uN s i = none) (h : ¬ i + 1 < s.size) : uo s i = none := by
  have hi : i < s.size := lt_of_bn (by omega)
  rw [uo, if_pos hi, if_neg (by simp [hb]), hu]
  simp only
  rw [if_neg h]
theorem uN_bs {s : ByteArray} {i n : Nat} (h : uN s i = some n) : bn s i = 92 := by
  unfold uN at h
  split at h
  · exact (by assumption : i + 6 ≤ s.size ∧ bn s i = 92 ∧ _).2.1
  · cases h
theorem uo_one {s : ByteArray} {i n : Nat} (hu : uN s i = some n) (hp : pairU s i n = none) : uo s i = (uo s (i + 6)).map (enc n ++ ·) := by
  have := uN_lt hu
  rw [uo, if_pos (by omega), if_neg (by simp [uN_bs hu]), hu]
  simp only
  rw [hp]
theorem uo_pair {s : ByteArray} {i n c : Nat} (hu : uN s i = some n) (hp : pairU s i n = some c) : uo s i = (uo s (i + 12)).map (enc c ++ ·) := by
  have := uN_lt hu
  rw [uo, if_pos (by omega), if_neg (by simp [uN_bs hu]), hu]
  simp only
  rw [hp]
theorem pairU_le {s : ByteArray} {i n c : Nat} (h : pairU s i n = some c) : c ≤ 1114111 ∧ i + 12 ≤ s.size := by
  unfold pairU at h
  split at h
  · rename_i m hm
    have := uN_lt hm
    split at h
    · have h := Option.some.inj h; omega
    · cases h
  · cases h
theorem kp_then {S' : Nat → Prop} {w0 w w' : World} (h : Kp Off w0 w) (k : Kp S' w w') (hs : ∀ i, i < w0.heap.size → ¬ S' i) : Kp Off w0 w' :=
  ⟨k.os.trans h.os, k.tape.trans h.tape, k.output.trans h.output, Nat.le_trans h.size k.size, fun i hi _ => (k.block i (Nat.lt_of_lt_of_le hi h.size) (hs i hi)).trans (h.block i hi id)⟩
/-- The inside of a quoted text. -/
def inn (q : ByteArray) : ByteArray := q.extract 1 (q.size - 1)
theorem inn_size (q : ByteArray) : (inn q).size = q.size - 2 := by unfold inn; rw [ByteArray.size_extract]; omega
theorem map_some {l : Option (List UInt8)} {r : List UInt8} {f : List UInt8 → List UInt8} (h : l.map f = some r) : ∃ t, l = some t ∧ f t = r := by
  cases l with
  | none => cases h
  | some t => exact ⟨t, rfl, by simpa using h⟩
end Go.Proofs.YtkpnomdmnhhaoaaGreatDoor.Uq
namespace Go.Proofs.YtkpnomdmnhhaoaaGreatDoor.Uq
open Go Go.Proofs Go.RowKit Go.Proofs.YtkpnomdmnhhaoaaGreatDoor.Rx Go.Proofs.YtkpnomdmnhhaoaaGreatDoor.Tr Go.Proofs.YtkpnomdmnhhaoaaGreatDoor.Pl Go.Proofs.YtkpnomdmnhhaoaaGreatDoor.Ut Go.Proofs.YtkpnomdmnhhaoaaGreatDoor.Ch Go.Proofs.YtkpnomdmnhhaoaaGreatDoor.Bw

theorem hex_any {n : Nat} {w : World} (hn : n < 256) : Calls Tryz.prog 40 #[.int .u8 n] w fun e w' => e = .returned (.tuple #[.int .i64 ((hv n).getD 0 : Nat), .bool (hv n).isSome]) ∧ w' = w := by
  refine spec_hexDigit.calls _ ?_
  unfold spec_hexDigit.t
  refine s_cut (fun x w' => x = (decide (48 ≤ n ∧ n ≤ 57), ()) ∧ w = w') ?_ ?_
  · refine s_iteD (fun h => s_leaf ?_) (fun h => s_leaf ?_)
    · rw [if_pos rfl]
      refine ⟨(decide ((n : Int) ≤ 57), ()), rfl, bpair ?_, rfl⟩
      simp only [decide_eq_true_eq]; omega
    · rw [if_pos rfl]
      refine ⟨(false, ()), rfl, ?_, rfl⟩
      rw [decide_eq_false (by omega)]; rfl
  rintro x w1 ⟨rfl, rfl⟩
  simp only [spec_hexDigit.t1]
  refine s_iteD (fun h => s_leaf ⟨rfl, ?_, rfl⟩) (fun h1 => ?_)
  · have e : hv n = some (n - 48) := by unfold hv; rw [if_pos h]
    rw [e, wrapB_in (by omega) (by omega), wrap_in (by omega) (by omega)]
    have : (n : Int) - 48 = ((n - 48 : Nat) : Int) := by omega
    rw [this]; rfl
  refine s_cut (fun x w' => x = (decide (97 ≤ n ∧ n ≤ 102), ()) ∧ w = w') ?_ ?_
  · refine s_iteD (fun h => s_leaf ?_) (fun h => s_leaf ?_)
    · rw [if_pos rfl]
      refine ⟨(decide ((n : Int) ≤ 102), ()), rfl, bpair ?_, rfl⟩
      simp only [decide_eq_true_eq]; omega
    · rw [if_pos rfl]
      refine ⟨(false, ()), rfl, ?_, rfl⟩
      rw [decide_eq_false (by omega)]; rfl
  rintro x w1 ⟨rfl, rfl⟩
  simp only [spec_hexDigit.t2]
  refine s_iteD (fun h => s_leaf ⟨rfl, ?_, rfl⟩) (fun h2 => ?_)
  · have e : hv n = some (n - 87) := by unfold hv; rw [if_neg h1, if_pos h]
    rw [e, wrapB_in (by omega) (by omega), wrap_in (n := (n : Int) - 97) (by omega) (by omega), wrap_in (by omega) (by omega)]
    have : (n : Int) - 97 + 10 = ((n - 87 : Nat) : Int) := by omega
    rw [this]; rfl
  have no : ¬ (65 ≤ n ∧ n ≤ 70) → hv n = none := fun h3 => by unfold hv; rw [if_neg h1, if_neg h2, if_neg h3]
  refine s_iteD (fun h3 => ?_) (fun h3 => s_leaf ⟨rfl, ?_, rfl⟩)
  · refine s_iteD (fun h4 => s_leaf ⟨rfl, ?_, rfl⟩) (fun h4 => s_leaf ⟨rfl, ?_, rfl⟩)
    · have e : hv n = some (n - 55) := by unfold hv; rw [if_neg h1, if_neg h2, if_pos (by omega)]
      rw [e, wrapB_in (by omega) (by omega), wrap_in (n := (n : Int) - 65) (by omega) (by omega), wrap_in (by omega) (by omega)]
      have : (n : Int) - 65 + 10 = ((n - 55 : Nat) : Int) := by omega
      rw [this]; rfl
    · rw [no (by omega)]; rfl
  · rw [no (by omega)]; rfl
theorem unit_any {s : ByteArray} {i : Nat} {w : World} (hs : s.size < 4611686018427387904) (hi : i ≤ s.size + 12) : Calls Tryz.prog 22 #[.string s, .int .i64 i] w fun e w' => e = .returned (.tuple #[.int .i64 ((uN s i).getD 0 : Nat), .bool (uN s i).isSome]) ∧ w' = w := by
  refine spec_unit.calls _ _ ?_
  unfold spec_unit.t
  rw [wrap_in (n := (((ByteArray.size s) : Nat) : Int) - (i : Int)) (by omega) (by omega), wrap_in (n := (i : Int) + 1) (by omega) (by omega)]
  refine s_cut (fun x w' => x = (decide (¬ (i + 6 ≤ s.size ∧ bn s i = 92 ∧ bn s (i + 1) = 117)), ()) ∧ w = w') ?_ ?_
  · have b1 := bt_bn s (i + 1)
    refine s_iteD (fun h => s_leaf ?_) (fun h => s_chk (by omega) ?_)
    · rw [if_pos rfl]
      refine ⟨(true, ()), rfl, ?_, rfl⟩
      rw [decide_eq_true (by omega)]; rfl
    rw [bt_bn]
    refine s_iteN (fun h2 => s_leaf ?_) (fun h2 => s_chk (by omega) (s_leaf ?_))
    · rw [if_pos rfl]
      refine ⟨(true, ()), rfl, ?_, rfl⟩
      rw [decide_eq_true (by omega)]; rfl
    · rw [if_pos rfl]
      refine ⟨(bt s ((i : Int) + 1) != 117, ()), rfl, bpair ?_, rfl⟩
      have e : (i : Int) + 1 = ((i + 1 : Nat) : Int) := by omega
      rw [e, b1]
      simp only [bne_iff_ne, ne_eq, decide_eq_true_eq]
      omega
  rintro x w1 ⟨rfl, rfl⟩
  simp only [spec_unit.t1]
  refine s_iteD (fun h => s_leaf ⟨rfl, ?_, rfl⟩) (fun h => ?_)
  · have : uN s i = none := by unfold uN; rw [if_neg h]
    rw [this]; rfl
  have h : i + 6 ≤ s.size ∧ bn s i = 92 ∧ bn s (i + 1) = 117 := Decidable.not_not.1 h
  have hu : uN s i = hx s (i + 2) 4 := by unfold uN; rw [if_pos h]
  rw [wrap_in (n := (i : Int) + 2) (by omega) (by omega)]
  refine s_loop (fun n x w' => ∃ j a : Nat, n = 4 - j ∧ x = (((i + 2 + j : Nat) : Int), (a : Int), ()) ∧ j ≤ 4 ∧ hx s (i + 2) j = some a ∧ w = w') 4 ((i : Int) + 2, (0 : Int), ()) rfl ⟨0, 0, rfl, by rw [show ((i + 2 + 0 : Nat) : Int) = (i : Int) + 2 by omega]; rfl, by omega, rfl, rfl⟩ ?_
  rintro n x w1 ⟨j, a, rfl, rfl, hj, ha, rfl⟩
  simp only [spec_unit.t2]
  have hal := hx_lt ha
  have hal : a < 65536 := Nat.lt_of_lt_of_le hal (Nat.pow_le_pow_right (by decide) hj)
  rw [wrap_in (n := (i : Int) + 6) (by omega) (by omega)]
  refine s_iteD (fun h1 => ?_) (fun h1 => s_leaf ?_)
  · refine s_chk (by omega) ?_
    rw [bt_bn]
    refine s_call (hex_any (bn_lt s (i + 2 + j))) ?_
    rintro e w1 ⟨rfl, rfl⟩
    cases hd : hv (bn s (i + 2 + j)) with
    | none =>
      refine ⟨((0 : Int), false, ()), rfl, sat_iteT.2 (s_leaf ?_)⟩
      rw [if_neg (by decide)]
      refine ⟨rfl, ?_, rfl⟩
      rw [hu, hx_bad hd (by omega : j < 4)]; rfl
    | some d =>
      refine ⟨((d : Int), true, ()), rfl, sat_iteF.2 (s_leaf ?_)⟩
      have := hv_lt hd
      rw [if_pos rfl, wrap_in (n := ((i + 2 + j : Nat) : Int) + 1) (by omega) (by omega), wrap_in (n := (a : Int) * 16) (by omega) (by omega), wrap_in (by omega) (by omega)]
      refine ⟨4 - (j + 1), (((i + 2 + (j + 1) : Nat) : Int), ((a * 16 + d : Nat) : Int), ()), ?_, by omega, j + 1, _, rfl, rfl, by omega, hx_some ha hd, rfl⟩
      show [Value.int .i64 (((i + 2 + j : Nat) : Int) + 1), Value.int .i64 ((a : Int) * 16 + (d : Int))] = _
      rw [show ((i + 2 + j : Nat) : Int) + 1 = ((i + 2 + (j + 1) : Nat) : Int) by omega, show (a : Int) * 16 + (d : Int) = ((a * 16 + d : Nat) : Int) by omega]
      rfl
  · rw [if_neg (by decide)]
    have : j = 4 := by omega
    subst this
    rw [hu, ha]
    exact ⟨rfl, rfl, rfl⟩
theorem short_any {b : UInt8} {w : World} : Calls Tryz.prog 70 #[bv b] w fun e w' => e = .returned (bv (sh b)) ∧ w' = w := by
  refine spec_short.calls _ ?_
  unfold spec_short.t
  have ne : ∀ k : UInt8, ((b.toNat : Int) ≠ (k.toNat : Int)) → b ≠ k := fun k h e => h (by rw [e])
  have eq : ∀ k : UInt8, ((b.toNat : Int) = (k.toNat : Int)) → b = k := fun k h => UInt8.toNat.inj (by omega)
  refine s_iteE (fun h => s_leaf ⟨rfl, ?_, rfl⟩) (fun h1 => ?_)
  · have := eq 98 h; subst this; rfl
  refine s_iteE (fun h => s_leaf ⟨rfl, ?_, rfl⟩) (fun h2 => ?_)
  · have := eq 102 h; subst this; rfl
  refine s_iteE (fun h => s_leaf ⟨rfl, ?_, rfl⟩) (fun h3 => ?_)
  · have := eq 110 h; subst this; rfl
  refine s_iteE (fun h => s_leaf ⟨rfl, ?_, rfl⟩) (fun h4 => ?_)
  · have := eq 114 h; subst this; rfl
  refine s_iteE (fun h => s_leaf ⟨rfl, ?_, rfl⟩) (fun h5 => s_leaf ⟨rfl, ?_, rfl⟩)
  · have := eq 116 h; subst this; rfl
  · unfold sh
    rw [if_neg (ne 98 h1), if_neg (ne 102 h2), if_neg (ne 110 h3), if_neg (ne 114 h4), if_neg (ne 116 h5)]
    rfl
theorem appendUTF8_any {w0 w : World} {base : Nat} {x : Sr.Sl} {l : List UInt8} {n : Nat} (h : BR w base x l) (hb : base ≤ w.heap.size) (hn : n ≤ 1114111) (hl : l.length ≤ 4000000000) (hw : w0 = w) :
    Calls Tryz.prog 71 #[.slice x.1 x.2.1 x.2.2, .int .i64 n] w fun e w' => ∃ x', e = .returned (Sr.slV x') ∧ BR w' base x' (l ++ enc n) ∧ Kp (Own x) w0 w' ∧ (∀ q, Own x' q → Own x q ∨ w0.heap.size ≤ q) := by
  subst hw
  have bytes : ∀ (bs : List UInt8) (hbs : bs = enc n) (k : Nat) (ats : Array TypeId) (parts : Array (Nat × Value)) (hp : parts = (bs.zipIdx.map fun q => (q.2, bv q.1)).toArray) (hk : k = bs.length) (ha : ats = #[Sr.tBs, Sr.tBs]),
      sat Tryz.prog (.eff (Instr.buildSlice Sr.tBs k parts) .slice fun z3 => .eff (Builtin.append_ ats Sr.tBs #[(Value.slice (x).1 ((x).2).1 ((x).2).2), (Value.slice (z3).1 ((z3).2).1 ((z3).2).2)]) .slice fun z4 => .leaf 0 [(Value.slice (z4).1 ((z4).2).1 ((z4).2).2)])
        (fun l' vs w' => l' = 0 ∧ (∃ x', Ending.returned (retVal vs) = .returned (Sr.slV x') ∧ BR w' base x' (l ++ enc n) ∧ Kp (Own x) w0 w' ∧ (∀ q, Own x' q → Own x q ∨ w0.heap.size ≤ q))) w0 := by
    intro bs hbs k ats parts hp hk ha
    subst hbs
    have he := enc_len n
    exact s_put h (enc n) hb (by omega) ha hp hk (by intro e; rw [e] at he; simp at he) (by omega) fun x' w' a b c => s_leaf ⟨rfl, x', rfl, a, b, c⟩
  refine spec_appendUTF8.calls _ _ _ _ ?_
  unfold spec_appendUTF8.t
  have td : ∀ k : Nat, 0 < k → Int.tdiv (n : Int) (k : Int) = ((n / k : Nat) : Int) := fun k _ => by rw [Int.ofNat_tdiv]
  have tm : ∀ a k : Nat, Int.tmod (a : Int) (k : Int) = ((a % k : Nat) : Int) := fun a k => by rw [Int.ofNat_tmod]
  have td64 := td 64 (by decide)
  have td4096 := td 4096 (by decide)
  have td262144 := td 262144 (by decide)
  have wi : ∀ a : Nat, a < 4294967296 → IntKind.wrap .i64 (a : Int) = (a : Int) := fun a ha => wrap_in (by omega) (by omega)
  have wb : ∀ a : Nat, a < 256 → IntKind.wrap .u8 (a : Int) = (a : Int) := fun a ha => wrapB_in (by omega) (by omega)
  refine s_iteD (fun h1 => ?_) (fun h1 => ?_)
  · refine bytes [UInt8.ofNat n] (by unfold enc; rw [if_pos (by omega)]) _ _ _ ?_ rfl rfl
    rw [wb n (by omega), bv_of (n := n) rfl (by omega)]; rfl
  refine s_iteD (fun h2 => ?_) (fun h2 => ?_)
  · refine s_chk (by decide) (s_chk (by decide) ?_)
    refine bytes [UInt8.ofNat (192 + n / 64), UInt8.ofNat (128 + n % 64)] (by unfold enc; rw [if_neg (by omega), if_pos (by omega)]) _ _ _ ?_ rfl rfl
    have e1 : (192 : Int) + ((n / 64 : Nat) : Int) = ((192 + n / 64 : Nat) : Int) := by omega
    have e2 : (128 : Int) + ((n % 64 : Nat) : Int) = ((128 + n % 64 : Nat) : Int) := by omega
    have t64 : Int.tmod (n : Int) (64 : Int) = ((n % 64 : Nat) : Int) := tm n 64
    have d64 : Int.tdiv (n : Int) (64 : Int) = ((n / 64 : Nat) : Int) := td64
    rw [t64, d64, wi (n / 64) (by omega), e1, e2, wi (192 + n / 64) (by omega), wi (128 + n % 64) (by omega), wb (192 + n / 64) (by omega), wb (128 + n % 64) (by omega), bv_of (n := 192 + n / 64) rfl (by omega), bv_of (n := 128 + n % 64) rfl (by omega)]
    rfl
  refine s_cut (fun y w' => y = (decide (55296 ≤ n ∧ n ≤ 57343), ()) ∧ w0 = w') ?_ ?_
  · refine s_call high_any ?_
    rintro e w1 ⟨rfl, rfl⟩
    refine ⟨_, rfl, ?_⟩
    refine s_iteD (fun h3 => s_leaf ?_) (fun h3 => ?_)
    · rw [if_pos rfl]
      refine ⟨(true, ()), rfl, ?_, rfl⟩
      rw [decide_eq_true (by omega)]; rfl
    · refine s_call low_any ?_
      rintro e w1 ⟨rfl, rfl⟩
      refine ⟨_, rfl, s_leaf ?_⟩
      rw [if_pos rfl]
      refine ⟨(decide (56320 ≤ (n : Int) ∧ (n : Int) ≤ 57343), ()), rfl, bpair ?_, rfl⟩
      simp only [decide_eq_true_eq]; omega
  rintro y w1 ⟨rfl, rfl⟩
  simp only [spec_appendUTF8.t1]
  refine s_iteD (fun h3 => ?_) (fun h3 => ?_)
  · exact bytes [239, 191, 189] (by unfold enc; rw [if_neg (by omega), if_neg (by omega), if_pos h3]) _ _ _ rfl rfl rfl
  have t64 : Int.tmod (n : Int) (64 : Int) = ((n % 64 : Nat) : Int) := tm n 64
  have d64 : Int.tdiv (n : Int) (64 : Int) = ((n / 64 : Nat) : Int) := td64
  have d4096 : Int.tdiv (n : Int) (4096 : Int) = ((n / 4096 : Nat) : Int) := td4096
  have d262144 : Int.tdiv (n : Int) (262144 : Int) = ((n / 262144 : Nat) : Int) := td262144
  have tt64 : ∀ a : Nat, Int.tmod (a : Int) (64 : Int) = ((a % 64 : Nat) : Int) := fun a => tm a 64
  have cast : ∀ a b : Nat, ((a : Nat) : Int) + ((b : Nat) : Int) = ((a + b : Nat) : Int) := fun a b => by omega
  have e128 : ∀ b : Nat, (128 : Int) + ((b : Nat) : Int) = ((128 + b : Nat) : Int) := fun b => by omega
  refine s_iteD (fun h4 => ?_) (fun h4 => ?_)
  · refine s_chk (by decide) (s_chk (by decide) (s_chk (by decide) (s_chk (by decide) ?_)))
    refine bytes [UInt8.ofNat (224 + n / 4096), UInt8.ofNat (128 + n / 64 % 64), UInt8.ofNat (128 + n % 64)] (by unfold enc; rw [if_neg (by omega), if_neg (by omega), if_neg h3, if_pos (by omega)]) _ _ _ ?_ rfl rfl
    have e224 : (224 : Int) + ((n / 4096 : Nat) : Int) = ((224 + n / 4096 : Nat) : Int) := by omega
    rw [d64, d4096, wi (n / 64) (by omega), wi (n / 4096) (by omega), t64, tt64, e224, e128, e128, wi (224 + n / 4096) (by omega), wi (128 + n / 64 % 64) (by omega), wi (128 + n % 64) (by omega), wb (224 + n / 4096) (by omega), wb (128 + n / 64 % 64) (by omega), wb (128 + n % 64) (by omega),
      bv_of (n := 224 + n / 4096) rfl (by omega), bv_of (n := 128 + n / 64 % 64) rfl (by omega), bv_of (n := 128 + n % 64) rfl (by omega)]
    rfl
  · refine s_chk (by decide) (s_chk (by decide) (s_chk (by decide) (s_chk (by decide) (s_chk (by decide) (s_chk (by decide) ?_)))))
    refine bytes [UInt8.ofNat (240 + n / 262144), UInt8.ofNat (128 + n / 4096 % 64), UInt8.ofNat (128 + n / 64 % 64), UInt8.ofNat (128 + n % 64)] (by unfold enc; rw [if_neg (by omega), if_neg (by omega), if_neg h3, if_neg (by omega)]) _ _ _ ?_ rfl rfl
    have e240 : (240 : Int) + ((n / 262144 : Nat) : Int) = ((240 + n / 262144 : Nat) : Int) := by omega
    rw [d64, d4096, d262144, wi (n / 64) (by omega), wi (n / 4096) (by omega), wi (n / 262144) (by omega), t64, tt64, tt64, e240, e128, e128, e128, wi (240 + n / 262144) (by omega), wi (128 + n / 4096 % 64) (by omega), wi (128 + n / 64 % 64) (by omega), wi (128 + n % 64) (by omega), wb (240 + n / 262144) (by omega), wb (128 + n / 4096 % 64) (by omega), wb (128 + n / 64 % 64) (by omega), wb (128 + n % 64) (by omega),
      bv_of (n := 240 + n / 262144) rfl (by omega), bv_of (n := 128 + n / 4096 % 64) rfl (by omega), bv_of (n := 128 + n / 64 % 64) rfl (by omega), bv_of (n := 128 + n % 64) rfl (by omega)]
    rfl
theorem unquote_any {q : ByteArray} {w : World} {r : List UInt8} (hq : 2 ≤ q.size) (hs : q.size < 1000000000) (hr : uo (inn q) 0 = some r) :
    Calls Tryz.prog 43 #[.string q] w fun e w' => e = .returned (.string ⟨r.toArray⟩) ∧ Kp Off w w' := by
  refine spec_Unquote.calls _ ?_
  unfold spec_Unquote.t
  have hz := inn_size q
  have ex : ByteArray.extract q 1 (Int.toNat (IntKind.wrap IntKind.i64 ((((ByteArray.size q) : Nat) : Int) - (1 : Int)))) = inn q := by
    rw [wrap_in (by omega) (by omega)]
    unfold inn
    congr 1
    omega
  refine s_chk (by rw [wrap_in (by omega) (by omega)]; omega) ?_
  refine s_loop (fun n x w' => ∃ (i : Nat) (z : Sr.Sl) (l t : List UInt8), n = (inn q).size - i ∧ x = ((i : Int), z, ()) ∧ i ≤ (inn q).size ∧ l.length ≤ 4 * i ∧ uo (inn q) i = some t ∧ l ++ t = r ∧ BR w' w.heap.size z l ∧ Kp Off w w') (inn q).size ((0 : Int), (none, 0, 0), ()) rfl
    ⟨0, (none, 0, 0), [], r, rfl, rfl, Nat.zero_le _, Nat.le_refl _, hr, rfl, BR.nil _ _, Kp.refl _ _⟩ ?_
  rintro n x w1 ⟨i, z, l, t, rfl, rfl, hi, hl, ht, hlt, hB, k1⟩
  simp only [spec_Unquote.t1]
  rw [ex]
  generalize hS : inn q = s at *
  have frame : ∀ {w2 : World} {z : Sr.Sl} {l : List UInt8} {w1 : World}, Kp Off w w1 → BR w1 w.heap.size z l → Kp (Own z) w1 w2 → Kp Off w w2 := fun k1 hB k2 => kp_then k1 k2 fun i hi ho => by have := (hB.block i ho).1; omega
  have on : ∀ (j : Nat) (z' : Sr.Sl) (l' t' : List UInt8) (w' : World) (x : Int), x = (j : Int) → i < j → j ≤ s.size → l'.length ≤ 4 * j → uo s j = some t' → l' ++ t' = r → BR w' w.heap.size z' l' → Kp Off w w' →
      (fun l'' vs w'' => if l'' = 1 then ∃ n' x', vs = (Sh.cons (.int .i64) (.cons .slice .nil)).vals x' ∧ n' < s.size - i ∧ ∃ (i : Nat) (z : Sr.Sl) (l t : List UInt8), n' = s.size - i ∧ x' = ((i : Int), z, ()) ∧ i ≤ s.size ∧ l.length ≤ 4 * i ∧ uo s i = some t ∧ l ++ t = r ∧ BR w'' w.heap.size z l ∧ Kp Off w w''
        else l'' = 0 ∧ ((Ending.returned (retVal vs)) = .returned (.string ⟨r.toArray⟩) ∧ Kp Off w w'')) 1 [.int .i64 x, .slice z'.1 z'.2.1 z'.2.2] w' := by
    intro j z' l' t' w' x hx h1 h2 h3 h4 h5 h6 h7
    subst hx
    show if (1 : Nat) = 1 then _ else _
    rw [if_pos rfl]
    exact ⟨s.size - j, ((j : Int), z', ()), rfl, by omega, j, z', l', t', rfl, rfl, h2, h3, h4, h5, h6, h7⟩
  refine s_iteD (fun h => ?_) (fun h => ?_)
  rotate_left
  · have e : s.size ≤ i := by omega
    rw [uo_end e] at ht
    cases ht
    rw [List.append_nil] at hlt
    subst hlt
    refine s_eff _ hB.toStr (s_leaf ?_)
    rw [if_neg (by decide)]
    exact ⟨rfl, rfl, k1⟩
  have hlt2 : i < s.size := by omega
  refine s_chk (by omega) ?_
  rw [bt_bn]
  refine s_iteN (fun hb => ?_) (fun hb => ?_)
  · rw [uo_plain hlt2 (by omega)] at ht
    obtain ⟨t', h1, rfl⟩ := map_some ht
    refine s_chk (by omega) ?_
    rw [← bt_bn, bt_bv]
    refine s_put hB [gb s i] k1.size (by simp; omega) rfl rfl rfl (by simp) (by simp) fun z2 w2 hB2 k2 _ => s_leaf ?_
    exact on (i + 1) z2 _ t' w2 _ (wrap_in (by omega) (by omega)) (by omega) hlt2 (by simp; omega) h1 (by rw [← hlt]; simp) hB2 (frame k1 hB k2)
  have hb : bn s i = 92 := by omega
  refine s_call (unit_any (s := s) (i := i) (by omega) (by omega)) ?_
  rintro e w1 ⟨rfl, rfl⟩
  cases hu : uN s i with
  | none =>
    refine ⟨((0 : Int), false, ()), rfl, sat_iteT.2 ?_⟩
    have h1 : i + 1 < s.size := by
      rcases Nat.lt_or_ge (i + 1) s.size with g | g
      · exact g
      · rw [uo_none hb hu (by omega)] at ht; cases ht
    rw [uo_short hb hu h1] at ht
    obtain ⟨t', h2, rfl⟩ := map_some ht
    rw [wrap_in (n := (i : Int) + 1) (by omega) (by omega)]
    refine s_chk (by omega) ?_
    have e1 : Value.int .u8 (bt s ((i : Int) + 1)) = bv (gb s (i + 1)) := by
      have := bt_bv s (i + 1)
      rw [show ((i + 1 : Nat) : Int) = (i : Int) + 1 by omega] at this
      exact this
    rw [e1]
    refine s_call short_any ?_
    rintro e w1 ⟨rfl, rfl⟩
    refine ⟨((sh (gb s (i + 1))).toNat : Int), rfl, ?_⟩
    refine s_put hB [sh (gb s (i + 1))] k1.size (by simp; omega) rfl rfl rfl (by simp) (by simp) fun z2 w2 hB2 k2 _ => s_leaf ?_
    exact on (i + 2) z2 _ t' w2 _ (wrap_in (by omega) (by omega)) (by omega) h1 (by simp; omega) h2 (by rw [← hlt]; simp) hB2 (frame k1 hB k2)
  | some n =>
    refine ⟨((n : Int), true, ()), rfl, sat_iteF.2 ?_⟩
    have hn := uN_lt hu
    rw [wrap_in (n := (i : Int) + 6) (by omega) (by omega)]
    have c6 : (i : Int) + 6 = ((i + 6 : Nat) : Int) := by omega
    rw [c6]
    refine s_call (unit_any (s := s) (i := i + 6) (by omega) (by omega)) ?_
    rintro e w1 ⟨rfl, rfl⟩
    refine ⟨((((uN s (i + 6)).getD 0 : Nat) : Int), (uN s (i + 6)).isSome, ()), rfl, ?_⟩
    refine s_cut (fun x w' => x = ((pairU s i n).isSome, ()) ∧ w1 = w') ?_ ?_
    · unfold pairU
      cases hm : uN s (i + 6) with
      | none =>
        refine sat_iteF.2 (s_leaf ?_)
        rw [if_pos rfl]; exact ⟨(false, ()), rfl, rfl, rfl⟩
      | some m =>
        refine sat_iteT.2 (s_call high_any ?_)
        rintro e w1 ⟨rfl, rfl⟩
        refine ⟨_, rfl, ?_⟩
        refine s_iteD (fun h3 => ?_) (fun h3 => s_leaf ?_)
        · refine s_call low_any ?_
          rintro e w1 ⟨rfl, rfl⟩
          refine ⟨_, rfl, s_leaf ?_⟩
          rw [if_pos rfl]
          refine ⟨(decide (56320 ≤ (m : Int) ∧ (m : Int) ≤ 57343), ()), rfl, bpair ?_, rfl⟩
          simp only [decide_eq_true_eq]
          split
          · simp; omega
          · simp; omega
        · rw [if_pos rfl]
          refine ⟨(false, ()), rfl, ?_, rfl⟩
          simp only
          rw [if_neg (by omega)]
          rfl
    rintro x w1 ⟨rfl, rfl⟩
    simp only [spec_Unquote.t2]
    cases hp : pairU s i n with
    | some c =>
      refine sat_iteT.2 ?_
      rw [uo_pair hu hp] at ht
      obtain ⟨t', h2, rfl⟩ := map_some ht
      have hc := pairU_le hp
      have ec : IntKind.wrap IntKind.i64 ((IntKind.wrap IntKind.i64 ((65536 : Int) + (IntKind.wrap IntKind.i64 ((IntKind.wrap IntKind.i64 ((n : Int) - (55296 : Int))) * (1024 : Int))))) + (IntKind.wrap IntKind.i64 ((((uN s (i + 6)).getD 0 : Nat) : Int) - (56320 : Int)))) = (c : Int) := by
        unfold pairU at hp
        cases hm : uN s (i + 6) with
        | none => rw [hm] at hp; cases hp
        | some m =>
          rw [hm] at hp
          simp only at hp
          split at hp
          · rename_i hnm
            have hp := Option.some.inj hp
            simp only [Option.getD_some]
            rw [wrap_in (n := (n : Int) - 55296) (by omega) (by omega), wrap_in (n := ((n : Int) - 55296) * 1024) (by omega) (by omega), wrap_in (n := (65536 : Int) + ((n : Int) - 55296) * 1024) (by omega) (by omega), wrap_in (n := ((m : Nat) : Int) - 56320) (by omega) (by omega), wrap_in (by omega) (by omega)]
            omega
          · cases hp
      have he := enc_len c
      refine s_call (R := fun e w' => ∃ x', e = .returned (Sr.slV x') ∧ BR w' w.heap.size x' (l ++ enc c) ∧ Kp (Own z) w1 w' ∧ (∀ q, Own x' q → Own z q ∨ w1.heap.size ≤ q)) ?_ ?_
      · rw [ec]; exact appendUTF8_any hB k1.size (by omega) (by omega) rfl
      rintro e w5 ⟨z2, rfl, hB2, k2, _⟩
      refine ⟨z2, rfl, s_leaf ?_⟩
      exact on (i + 12) z2 _ t' w5 _ (by rw [wrap_in (n := (i : Int) + 6) (by omega) (by omega), wrap_in (by omega) (by omega)]; omega) (by omega) (by omega) (by simp; omega) h2 (by rw [← hlt]; simp) hB2 (frame k1 hB k2)
    | none =>
      refine sat_iteF.2 ?_
      rw [uo_one hu hp] at ht
      obtain ⟨t', h2, rfl⟩ := map_some ht
      have he := enc_len n
      refine s_call (appendUTF8_any (n := n) hB k1.size (by omega) (by omega) rfl) ?_
      rintro e w5 ⟨z2, rfl, hB2, k2, _⟩
      refine ⟨z2, rfl, s_leaf ?_⟩
      exact on (i + 6) z2 _ t' w5 _ (by rw [wrap_in (by omega) (by omega)]; omega) (by omega) (by omega) (by simp; omega) h2 (by rw [← hlt]; simp) hB2 (frame k1 hB k2)
end Go.Proofs.YtkpnomdmnhhaoaaGreatDoor.Uq
namespace Go.Proofs.YtkpnomdmnhhaoaaGreatDoor.Ql
open Go Go.Proofs.YtkpnomdmnhhaoaaGreatDoor.Rx Go.Proofs.YtkpnomdmnhhaoaaGreatDoor.Pl Go.Proofs.YtkpnomdmnhhaoaaGreatDoor.Ut Go.Proofs.YtkpnomdmnhhaoaaGreatDoor.Bw Go.Proofs.YtkpnomdmnhhaoaaGreatDoor.Uq

/-- The bytes from a place on. -/
def tl (o : ByteArray) (p : Nat) : List UInt8 := o.data.toList.drop p
theorem tl_cons {o : ByteArray} {p : Nat} {c : UInt8} {r : List UInt8} (h : tl o p = c :: r) : p < o.size ∧ gb o p = c ∧ tl o (p + 1) = r := by
  have h0 : (o.data.toList.drop p)[0]? = some c := by
    have : o.data.toList.drop p = c :: r := h
    rw [this]; rfl
  rw [List.getElem?_drop, Nat.add_zero] at h0
  refine ⟨?_, ?_, ?_⟩
  · have := (List.getElem?_eq_some_iff.1 h0).1
    rw [Array.length_toList] at this; exact this
  · show o.data.toList.getD p 0 = c
    rw [List.getD_eq_getElem?_getD, h0]; rfl
  · show o.data.toList.drop (p + 1) = r
    rw [← List.drop_drop]
    have : o.data.toList.drop p = c :: r := h
    rw [this]; rfl
theorem tl_on {o : ByteArray} {p : Nat} (h : p < o.size) : tl o p = gb o p :: tl o (p + 1) := by
  have hl : p < o.data.toList.length := by rw [Array.length_toList]; exact h
  show o.data.toList.drop p = o.data.toList.getD p 0 :: o.data.toList.drop (p + 1)
  rw [List.drop_eq_getElem_cons hl, List.getD_eq_getElem?_getD, List.getElem?_eq_getElem hl]; rfl
theorem tl_end {o : ByteArray} {p : Nat} (h : o.size ≤ p) : tl o p = [] := List.drop_eq_nil_of_le (by rw [Array.length_toList]; exact h)
theorem tl_app {o : ByteArray} {p : Nat} {l r : List UInt8} (h : tl o p = l ++ r) : tl o (p + l.length) = r := by
  show o.data.toList.drop (p + l.length) = r
  rw [← List.drop_drop]
  have : o.data.toList.drop p = l ++ r := h
  rw [this, List.drop_left]
theorem bt_gb {o : ByteArray} {p : Nat} {c : UInt8} (h : gb o p = c) : bt o (p : Int) = (c.toNat : Int) := by rw [bt_bn, ← gb_bn, h]
theorem bn_gb {o : ByteArray} {p : Nat} {c : UInt8} (h : gb o p = c) : bn o p = c.toNat := by rw [← gb_bn, h]
theorem gb_of {s : ByteArray} {i : Nat} {c : UInt8} (h : bn s i = c.toNat) : gb s i = c := UInt8.toNat_inj.1 (by rw [gb_bn, h])
theorem extract_tl (s : ByteArray) (i n : Nat) : (s.extract i (i + n)).data.toList = (tl s i).take n := by
  rw [ByteArray.data_extract, Array.toList_extract]
  show List.extract s.data.toList i (i + n) = _
  rw [List.extract_eq_take_drop, Nat.add_sub_cancel_left]; rfl
end Go.Proofs.YtkpnomdmnhhaoaaGreatDoor.Ql
namespace Go.Proofs.YtkpnomdmnhhaoaaGreatDoor.Ms
open Go
theorem cell_lt {w : World} {a : Addr} {v : Value} (h : w.cell? a = some v) : a.block < w.heap.size := by
  rcases Nat.lt_or_ge a.block w.heap.size with g | g
  · exact g
  · unfold World.cell? at h; rw [Array.getElem?_eq_none g] at h; cases h
end Go.Proofs.YtkpnomdmnhhaoaaGreatDoor.Ms
