/- What AppendJSONString writes of a text in UTF-8 is a JSON string that says the text. Plain; no statement of the set is proved here. -/
import Derived.Test.YtbmmpnjpejamaaaDoorGr
import Derived.Test.YtbmmpnjpejamaaaDoorUp
import Derived.Test.YtbmmpnjpejamaaaDoorCh
import Derived.Test.YtbmmpnjpejamaaaDoorPj
namespace Go.Proofs.YtbmmpnjpejamaaaDoor.Ql
open Go Go.Proofs.YtbmmpnjpejamaaaDoor.Rx Go.Proofs.YtbmmpnjpejamaaaDoor.Pl Go.Proofs.YtbmmpnjpejamaaaDoor.Ut Go.Proofs.YtbmmpnjpejamaaaDoor.Ch Go.Proofs.YtbmmpnjpejamaaaDoor.Bw Go.Proofs.YtbmmpnjpejamaaaDoor.Uq Go.Proofs.YtbmmpnjpejamaaaDoor.Gq

/-- The bytes from a place on. -/
def tl (o : ByteArray) (p : Nat) : List UInt8 := o.data.toList.drop p
theorem tl_cons {o : ByteArray} {p : Nat} {c : UInt8} {r : List UInt8} (h : tl o p = c :: r) : p < o.size ∧ gb o p = c ∧ tl o (p + 1) = r := by
  have h0 : (o.data.toList.drop p)[0]? = some c := by
    have : o.data.toList.drop p = c :: r := h
    rw [this]; rfl
  rw [List.getElem?_drop, Nat.add_zero] at h0
  refine ⟨?_, ?_, ?_⟩
  · have := (List.getElem?_eq_some_iff.1 h0).1
    rw [Array.length_toList] at this; exact this
  · show o.data.toList.getD p 0 = c
    rw [List.getD_eq_getElem?_getD, h0]; rfl
  · show o.data.toList.drop (p + 1) = r
    rw [← List.drop_drop]
    have : o.data.toList.drop p = c :: r := h
    rw [this]; rfl
theorem tl_on {o : ByteArray} {p : Nat} (h : p < o.size) : tl o p = gb o p :: tl o (p + 1) := by
  have hl : p < o.data.toList.length := by rw [Array.length_toList]; exact h
  show o.data.toList.drop p = o.data.toList.getD p 0 :: o.data.toList.drop (p + 1)
  rw [List.drop_eq_getElem_cons hl, List.getD_eq_getElem?_getD, List.getElem?_eq_getElem hl]; rfl
theorem tl_end {o : ByteArray} {p : Nat} (h : o.size ≤ p) : tl o p = [] := List.drop_eq_nil_of_le (by rw [Array.length_toList]; exact h)
theorem tl_app {o : ByteArray} {p : Nat} {l r : List UInt8} (h : tl o p = l ++ r) : tl o (p + l.length) = r := by
  show o.data.toList.drop (p + l.length) = r
  rw [← List.drop_drop]
  have : o.data.toList.drop p = l ++ r := h
  rw [this, List.drop_left]
theorem bt_gb {o : ByteArray} {p : Nat} {c : UInt8} (h : gb o p = c) : bt o (p : Int) = (c.toNat : Int) := by rw [bt_bn, ← gb_bn, h]
theorem bn_gb {o : ByteArray} {p : Nat} {c : UInt8} (h : gb o p = c) : bn o p = c.toNat := by rw [← gb_bn, h]
theorem gb_of {s : ByteArray} {i : Nat} {c : UInt8} (h : bn s i = c.toNat) : gb s i = c := UInt8.toNat_inj.1 (by rw [gb_bn, h])
/-- A piece of a string that says 'out'. -/
def Ok (piece out : List UInt8) : Prop := ∀ (o : ByteArray) (p : Nat) (r : List UInt8), tl o p = piece ++ r → strE o p = strE o (p + piece.length) ∧ uo o p = (uo o (p + piece.length)).map (out ++ ·)
theorem Ok.nil : Ok [] [] := fun o p r _ => ⟨rfl, by cases uo o p <;> simp⟩
theorem Ok.append {a b x y : List UInt8} (h1 : Ok a x) (h2 : Ok b y) : Ok (a ++ b) (x ++ y) := fun o p r h => by
  rw [List.append_assoc] at h
  obtain ⟨a1, a2⟩ := h1 o p _ h
  obtain ⟨b1, b2⟩ := h2 o _ _ (tl_app h)
  rw [List.length_append, ← Nat.add_assoc, a1, a2, b1, b2]
  refine ⟨rfl, ?_⟩
  cases uo o (p + a.length + b.length) <;> simp
theorem Ok.byte {c : UInt8} (h32 : 32 ≤ c.toNat) (h34 : c.toNat ≠ 34) (h92 : c.toNat ≠ 92) : Ok [c] [c] := fun o p r h => by
  obtain ⟨h1, h2, h3⟩ := tl_cons h
  have hb := bt_gb h2
  refine ⟨strE_plain h1 (by omega) (by omega) (by omega), ?_⟩
  rw [uo_plain h1 (by rw [bn_gb h2]; exact h92), h2]; rfl
theorem Ok.bytes : ∀ (l : List UInt8), (∀ c ∈ l, 32 ≤ c.toNat ∧ c.toNat ≠ 34 ∧ c.toNat ≠ 92) → Ok l l
  | [], _ => Ok.nil
  | c :: l, h => (Ok.byte (h c (by simp)).1 (h c (by simp)).2.1 (h c (by simp)).2.2).append (Ok.bytes l fun d hd => h d (List.mem_cons_of_mem _ hd))
theorem Ok.short {c : UInt8} (hx : isX (c.toNat : Int) = true) : Ok [92, c] [sh c] := fun o p r h => by
  obtain ⟨h1, h2, h3⟩ := tl_cons h
  obtain ⟨h4, h5, h6⟩ := tl_cons h3
  have hb := bt_gb h2
  have hc := bt_gb h5
  have hne : bn o (p + 1) ≠ 117 := by
    rw [bn_gb h5]
    have := isX_iff.1 hx
    omega
  refine ⟨?_, ?_⟩
  · rw [strE_esc hb, escE_x (by rw [hc]; exact hx)]; rfl
  · have hu : uN o p = none := by unfold uN; rw [if_neg fun h => hne h.2.2]
    rw [uo_short (bn_gb h2) hu h4, h5]; rfl
theorem hv_hexd : ∀ d : Nat, d < 16 → hv (hexd d).toNat = some d := by decide
theorem isH_hexd : ∀ d : Nat, d < 16 → isH ((hexd d).toNat : Int) = true := by decide
theorem Ok.hex {n : Nat} (hn : n < 55296) : Ok ([92, 117] ++ hex4 n) (enc n) := fun o p r h => by
  obtain ⟨h1, h2, h3⟩ := tl_cons h
  obtain ⟨h4, h5, h6⟩ := tl_cons h3
  obtain ⟨h7, h8, h9⟩ := tl_cons h6
  obtain ⟨ha, hb, hc⟩ := tl_cons h9
  obtain ⟨hd, he, hf⟩ := tl_cons hc
  obtain ⟨hg, hh, hi⟩ := tl_cons hf
  have m := fun a => Nat.mod_lt a (by decide : 0 < 16)
  have hlen : ([92, 117] ++ hex4 n).length = 6 := rfl
  rw [hlen]
  have e6 : p + 1 + 1 + 1 + 1 + 1 + 1 = p + 6 := rfl
  refine ⟨?_, ?_⟩
  · rw [strE_esc (bt_gb h2), escE_u (bt_gb h5)]
    have b1 := bt_gb h8; have b2 := bt_gb hb; have b3 := bt_gb he; have b4 := bt_gb hh
    simp only [hexE]
    rw [b1, isH_hexd _ (m _), if_pos rfl, b2, isH_hexd _ (m _), if_pos rfl, b3, isH_hexd _ (m _), if_pos rfl, b4, isH_hexd _ (m _), if_pos rfl]
    rfl
  · have hu : uN o p = some n := by
      unfold uN
      rw [if_pos ⟨by omega, bn_gb h2, bn_gb h5⟩]
      have x0 : hx o (p + 2) 0 = some 0 := rfl
      have x1 := hx_some x0 (by rw [show p + 2 + 0 = p + 1 + 1 by omega, bn_gb h8]; exact hv_hexd _ (m _))
      have x2 := hx_some x1 (by rw [show p + 2 + (0 + 1) = p + 1 + 1 + 1 by omega, bn_gb hb]; exact hv_hexd _ (m _))
      have x3 := hx_some x2 (by rw [show p + 2 + (0 + 1 + 1) = p + 1 + 1 + 1 + 1 by omega, bn_gb he]; exact hv_hexd _ (m _))
      have x4 := hx_some x3 (by rw [show p + 2 + (0 + 1 + 1 + 1) = p + 1 + 1 + 1 + 1 + 1 by omega, bn_gb hh]; exact hv_hexd _ (m _))
      have x4 : hx o (p + 2) 4 = _ := x4
      rw [x4]
      congr 1
      omega
    have hp : pairU o p n = none := by
      unfold pairU
      cases uN o (p + 6) with
      | none => rfl
      | some k => exact if_neg (by omega)
    rw [uo_one hu hp]
theorem enc_low {s : ByteArray} {i : Nat} (h : bn s i < 128) : enc (bn s i) = [gb s i] := by
  unfold enc
  rw [if_pos h]
  congr 1
  exact (gb_of (by rw [UInt8.toNat_ofNat_of_lt' (by simpa using (by omega : bn s i < 256))])).symm
theorem mem_take {s : ByteArray} {i n : Nat} {c : UInt8} (h : c ∈ (tl s i).take n) : ∃ k, k < n ∧ gb s (i + k) = c := by
  obtain ⟨k, e⟩ := List.mem_iff_getElem?.1 h
  have hk : k < n := by
    have := (List.getElem?_eq_some_iff.1 e).1
    rw [List.length_take] at this; omega
  refine ⟨k, hk, ?_⟩
  rw [List.getElem?_take_of_lt hk] at e
  have e : (s.data.toList.drop i)[k]? = some c := e
  rw [List.getElem?_drop] at e
  show s.data.toList.getD (i + k) 0 = c
  rw [List.getD_eq_getElem?_getD, e]; rfl
theorem extract_tl (s : ByteArray) (i n : Nat) : (s.extract i (i + n)).data.toList = (tl s i).take n := by
  rw [ByteArray.data_extract, Array.toList_extract]
  show List.extract s.data.toList i (i + n) = _
  rw [List.extract_eq_take_drop, Nat.add_sub_cancel_left]; rfl
theorem pc_ok {s : ByteArray} {i n r : Nat} (h : ChA s i n r) : (pc s i).2 = n ∧ Ok (pc s i).1 ((tl s i).take n) := by
  have hw := h.width
  have hi : i < s.size := by omega
  have one : bn s i < 128 → n = 1 ∧ (tl s i).take n = [gb s i] := fun hb => by
    have : n = 1 := by
      rcases Nat.lt_or_ge 1 n with g | g
      · have := (h.big g).1; omega
      · omega
    subst this
    exact ⟨rfl, by rw [tl_on hi]; rfl⟩
  have hxx : ∀ piece : List UInt8, bn s i < 128 → piece = [92, 117] ++ hex4 (bn s i) → (piece, 1).2 = n ∧ Ok (piece, 1).1 ((tl s i).take n) := fun piece hb e => by
    subst e
    obtain ⟨a, b⟩ := one hb
    rw [b, ← enc_low hb]
    exact ⟨a.symm, Ok.hex (by omega)⟩
  have shx : ∀ c : UInt8, bn s i < 128 → isX (c.toNat : Int) = true → bn s i = (sh c).toNat → ([92, c], 1).2 = n ∧ Ok ([92, c], 1).1 ((tl s i).take n) := fun c hb hx e => by
    obtain ⟨a, b⟩ := one hb
    rw [b, gb_of e]
    exact ⟨a.symm, Ok.short hx⟩
  unfold pc
  split
  · split
    · exact shx 98 (by omega) (by decide) (by simpa [sh] using ‹bn s i = 8›)
    split
    · exact shx 102 (by omega) (by decide) (by simpa [sh] using ‹bn s i = 12›)
    split
    · exact shx 110 (by omega) (by decide) (by simpa [sh] using ‹bn s i = 10›)
    split
    · exact shx 114 (by omega) (by decide) (by simpa [sh] using ‹bn s i = 13›)
    split
    · exact shx 116 (by omega) (by decide) (by simpa [sh] using ‹bn s i = 9›)
    · exact hxx _ (by omega) rfl
  split
  · exact hxx _ (by omega) rfl
  split
  · exact shx 92 (by omega) (by decide) (by simpa [sh] using ‹bn s i = 92›)
  split
  · exact shx 34 (by omega) (by decide) (by simpa [sh] using ‹bn s i = 34›)
  split
  · rename_i h127
    have h2 : 2 ≤ n := by
      rcases Nat.lt_or_ge 1 n with g | g
      · omega
      · have := (h.small (by omega)).1; omega
    rw [dc_of h]
    split
    · rename_i hbad
      have hbad : r = 65533 ∧ n = 1 := hbad
      omega
    split
    · rename_i hr
      have hr : r = 8232 ∨ r = 8233 := hr
      refine ⟨rfl, ?_⟩
      have h3 : n = 3 := by have := h.len; rw [if_neg (by omega), if_neg (by omega), if_pos (by omega)] at this; exact this
      subst h3
      have e : (tl s i).take 3 = [gb s i, gb s (i + 1), gb s (i + 2)] := by rw [tl_on hi, tl_on (show i + 1 < s.size by omega), tl_on (show i + 1 + 1 < s.size by omega)]; rfl
      have b := bn_lt s i; have b1 := bn_lt s (i + 1); have b2 := bn_lt s (i + 2)
      have e0 : bn s i = 226 ∧ bn s (i + 1) = 128 ∧ bn s (i + 2) = r % 64 + 128 := by
        unfold ChA at h; omega
      rw [e, gb_of (c := 226) e0.1, gb_of (c := 128) e0.2.1]
      rcases hr with rfl | rfl
      · rw [gb_of (c := 168) e0.2.2]; exact Ok.hex (n := 8232) (by omega)
      · rw [gb_of (c := 169) e0.2.2]; exact Ok.hex (n := 8233) (by omega)
    · refine ⟨rfl, ?_⟩
      show Ok (s.extract i (i + n)).data.toList _
      rw [extract_tl]
      refine Ok.bytes _ fun c hc => ?_
      obtain ⟨k, hk, rfl⟩ := mem_take hc
      have : 128 ≤ bn s (i + k) := by
        rcases Nat.eq_zero_or_pos k with h0 | h0
        · subst h0; have := (h.big h2).1; rw [Nat.add_zero]; omega
        · have := h.rest h0 hk; omega
      rw [gb_bn]; omega
  · have hb : bn s i < 128 := by omega
    obtain ⟨a, b⟩ := one hb
    rw [b]
    exact ⟨a.symm, Ok.byte (by rw [gb_bn]; omega) (by rw [gb_bn]; omega) (by rw [gb_bn]; omega)⟩
theorem qf_ok {s : ByteArray} {i : Nat} (h : U8 s i) : Ok (qf s i) (tl s i) := by
  induction h with
  | done => rw [qf_end (Nat.le_refl _), tl_end (Nat.le_refl _)]; exact Ok.nil
  | @step i n r h _ ih =>
    obtain ⟨a, b⟩ := pc_ok h
    have hw := h.width
    rw [qf_on (by omega), a]
    have e : tl s i = (tl s i).take n ++ tl s (i + n) := by
      have : tl s (i + n) = (tl s i).drop n := by
        show s.data.toList.drop (i + n) = (s.data.toList.drop i).drop n
        rw [List.drop_drop]
      rw [this, List.take_append_drop]
    rw [e]
    exact b.append ih
/-- The quoted text. -/
def qs (s : ByteArray) : ByteArray := ⟨(34 :: qf s 0 ++ [34]).toArray⟩
theorem qs_size (s : ByteArray) : (qs s).size = (qf s 0).length + 2 := by
  have : (qs s).size = (34 :: qf s 0 ++ [34]).length := List.size_toArray
  rw [this]; simp
theorem qs_tl (s : ByteArray) : tl (qs s) 0 = 34 :: (qf s 0 ++ [34]) := rfl
theorem qs_str {s : ByteArray} (h : U8 s 0) : strE (qs s) 1 = some (qs s).size ∧ bt (qs s) (0 : Nat) = 34 := by
  obtain ⟨h1, h2, h3⟩ := tl_cons (qs_tl s)
  refine ⟨?_, bt_gb h2⟩
  rw [(qf_ok h _ _ _ h3).1]
  have h4 := tl_app h3
  obtain ⟨h5, h6, h7⟩ := tl_cons h4
  rw [strE_q (bt_gb h6), qs_size]
  congr 1
  omega
theorem qs_inn {s : ByteArray} (h : U8 s 0) : uo (inn (qs s)) 0 = some s.data.toList := by
  have hz := inn_size (qs s)
  have hq := qs_size s
  have e : tl (inn (qs s)) 0 = qf s 0 ++ [] := by
    show (inn (qs s)).data.toList.drop 0 = _
    have := extract_tl (qs s) 1 (qf s 0).length
    unfold inn
    rw [hq, show (qf s 0).length + 2 - 1 = 1 + (qf s 0).length by omega, List.drop_zero, this]
    have h3 := (tl_cons (qs_tl s)).2.2
    rw [h3, List.take_left, List.append_nil]
  rw [(qf_ok h _ _ _ e).2, uo_end (by omega)]
  show some (s.data.toList.drop 0 ++ []) = _
  rw [List.append_nil, List.drop_zero]
theorem qs_len (s : ByteArray) : (qf s 0).length ≤ 6 * s.size := by
  suffices ∀ n i, s.size - i = n → i ≤ s.size → (qf s i).length ≤ 6 * (s.size - i) from by
    have := this (s.size - 0) 0 rfl (Nat.zero_le _); omega
  intro n
  induction n using Nat.strongRecOn with
  | ind n ih =>
    intro i hn hi
    rcases Nat.lt_or_ge i s.size with g | g
    · have hs := pc_step g
      have := ih (s.size - (i + (pc s i).2)) (by omega) (i + (pc s i).2) rfl hs.2.1
      rw [qf_on g, List.length_append]; omega
    · rw [qf_end g]; simp
end Go.Proofs.YtbmmpnjpejamaaaDoor.Ql
