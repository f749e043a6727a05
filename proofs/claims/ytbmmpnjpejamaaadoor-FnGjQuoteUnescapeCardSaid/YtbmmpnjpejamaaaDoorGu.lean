/- gjson.unescape of a text whose escapes are whole and no halves of surrogate pairs. No statement of the set is proved here. -/
import Derived.Test.YtbmmpnjpejamaaaDoorQn
import Derived.Test.YtbmmpnjpejamaaaDoorEv
import Derived.Test.YtbmmpnjpejamaaaDoorHp
import Derived.Laws.MakeOwn
namespace Go.Proofs.YtbmmpnjpejamaaaDoor.Gu
open Go Go.Proofs Go.RowKit Go.Proofs.YtbmmpnjpejamaaaDoor.Rx Go.Proofs.YtbmmpnjpejamaaaDoor.Tr Go.Proofs.YtbmmpnjpejamaaaDoor.Pl Go.Proofs.YtbmmpnjpejamaaaDoor.Ut Go.Proofs.YtbmmpnjpejamaaaDoor.Bw Go.Proofs.YtbmmpnjpejamaaaDoor.Uq Go.Proofs.YtbmmpnjpejamaaaDoor.Ql Go.Proofs.YtbmmpnjpejamaaaDoor.Gq Go.Proofs.YtbmmpnjpejamaaaDoor.Ch

/-- From a place on: no control character, every backslash begins an escape, no half of a surrogate pair. -/
def sf (o : ByteArray) (p : Nat) : Bool :=
  if p < o.size then
    if bn o p < 32 then false
    else if bn o p ≠ 92 then sf o (p + 1)
    else if isX (bt o ((p + 1 : Nat) : Int)) then sf o (p + 2)
    else match uN o p with
      | none => false
      | some n => if 55296 ≤ n ∧ n ≤ 57343 then false else sf o (p + 6)
  else true
termination_by o.size - p
theorem sf_end {o : ByteArray} {p : Nat} (h : o.size ≤ p) : sf o p = true := by rw [sf, if_neg (by omega)]
theorem sf_plain {o : ByteArray} {p : Nat} (h : p < o.size) (h1 : 32 ≤ bn o p) (h2 : bn o p ≠ 92) : sf o p = sf o (p + 1) := by rw [sf, if_pos h, if_neg (by omega), if_pos h2]
theorem sf_ctl {o : ByteArray} {p : Nat} (h : p < o.size) (h1 : bn o p < 32) : sf o p = false := by rw [sf, if_pos h, if_pos h1]
theorem sf_short {o : ByteArray} {p : Nat} (h : bn o p = 92) (hx : isX (bt o ((p + 1 : Nat) : Int)) = true) : sf o p = sf o (p + 2) := by
  rw [sf, if_pos (lt_of_bn (by omega)), if_neg (by omega), if_neg (by simp [h]), if_pos hx]
theorem sf_hex {o : ByteArray} {p n : Nat} (h : bn o p = 92) (hx : isX (bt o ((p + 1 : Nat) : Int)) = false) (hu : uN o p = some n) (hn : ¬ (55296 ≤ n ∧ n ≤ 57343)) : sf o p = sf o (p + 6) := by
  rw [sf, if_pos (lt_of_bn (by omega)), if_neg (by omega), if_neg (by simp [h]), hx, hu]
  simp only [Bool.false_eq_true, if_false]
  rw [if_neg hn]
theorem sf_bad {o : ByteArray} {p : Nat} (h : bn o p = 92) (hx : isX (bt o ((p + 1 : Nat) : Int)) = false) (hu : uN o p = none) : sf o p = false := by
  rw [sf, if_pos (lt_of_bn (by omega)), if_neg (by omega), if_neg (by simp [h]), hx, hu]
  simp only [Bool.false_eq_true, if_false]
theorem sf_half {o : ByteArray} {p n : Nat} (h : bn o p = 92) (hx : isX (bt o ((p + 1 : Nat) : Int)) = false) (hu : uN o p = some n) (hn : 55296 ≤ n ∧ n ≤ 57343) : sf o p = false := by
  rw [sf, if_pos (lt_of_bn (by omega)), if_neg (by omega), if_neg (by simp [h]), hx, hu]
  simp only [Bool.false_eq_true, if_false]
  rw [if_pos hn]
/-- A piece that is safe. -/
def Sp (piece : List UInt8) : Prop := ∀ (o : ByteArray) (p : Nat) (r : List UInt8), tl o p = piece ++ r → sf o p = sf o (p + piece.length)
theorem Sp.nil : Sp [] := fun _ _ _ _ => rfl
theorem Sp.append {a b : List UInt8} (h1 : Sp a) (h2 : Sp b) : Sp (a ++ b) := fun o p r h => by
  rw [List.append_assoc] at h
  rw [List.length_append, ← Nat.add_assoc, h1 o p _ h, h2 o _ _ (tl_app h)]
theorem Sp.byte {c : UInt8} (h32 : 32 ≤ c.toNat) (h92 : c.toNat ≠ 92) : Sp [c] := fun o p r h => by
  obtain ⟨h1, h2, h3⟩ := tl_cons h
  exact sf_plain h1 (by rw [bn_gb h2]; exact h32) (by rw [bn_gb h2]; exact h92)
theorem Sp.bytes : ∀ (l : List UInt8), (∀ c ∈ l, 32 ≤ c.toNat ∧ c.toNat ≠ 92) → Sp l
  | [], _ => Sp.nil
  | c :: l, h => (Sp.byte (h c (by simp)).1 (h c (by simp)).2).append (Sp.bytes l fun d hd => h d (List.mem_cons_of_mem _ hd))
theorem Sp.short {c : UInt8} (hx : isX (c.toNat : Int) = true) : Sp [92, c] := fun o p r h => by
  obtain ⟨h1, h2, h3⟩ := tl_cons h
  obtain ⟨h4, h5, h6⟩ := tl_cons h3
  exact sf_short (bn_gb h2) (by rw [bt_gb h5]; exact hx)
theorem uN_hex4 {n : Nat} (hn : n < 65536) {o : ByteArray} {p : Nat} {r : List UInt8} (h : tl o p = ([92, 117] ++ hex4 n) ++ r) : uN o p = some n ∧ bn o p = 92 ∧ bn o (p + 1) = 117 := by
  obtain ⟨h1, h2, h3⟩ := tl_cons h
  obtain ⟨h4, h5, h6⟩ := tl_cons h3
  obtain ⟨h7, h8, h9⟩ := tl_cons h6
  obtain ⟨ha, hb, hc⟩ := tl_cons h9
  obtain ⟨hd, he, hf⟩ := tl_cons hc
  obtain ⟨hg, hh, hi⟩ := tl_cons hf
  have m := fun a => Nat.mod_lt a (by decide : 0 < 16)
  refine ⟨?_, bn_gb h2, bn_gb h5⟩
  unfold uN
  rw [if_pos ⟨by omega, bn_gb h2, bn_gb h5⟩]
  have x0 : hx o (p + 2) 0 = some 0 := rfl
  have x1 := hx_some x0 (by rw [show p + 2 + 0 = p + 1 + 1 by omega, bn_gb h8]; exact hv_hexd _ (m _))
  have x2 := hx_some x1 (by rw [show p + 2 + (0 + 1) = p + 1 + 1 + 1 by omega, bn_gb hb]; exact hv_hexd _ (m _))
  have x3 := hx_some x2 (by rw [show p + 2 + (0 + 1 + 1) = p + 1 + 1 + 1 + 1 by omega, bn_gb he]; exact hv_hexd _ (m _))
  have x4 := hx_some x3 (by rw [show p + 2 + (0 + 1 + 1 + 1) = p + 1 + 1 + 1 + 1 + 1 by omega, bn_gb hh]; exact hv_hexd _ (m _))
  have x4 : hx o (p + 2) 4 = _ := x4
  rw [x4]
  congr 1
  omega
theorem Sp.hex {n : Nat} (hn : n < 55296) : Sp ([92, 117] ++ hex4 n) := fun o p r h => by
  obtain ⟨h1, h2, h3⟩ := uN_hex4 (by omega) h
  have hbt : bt o ((p + 1 : Nat) : Int) = ((bn o (p + 1) : Nat) : Int) := bt_bn o (p + 1)
  have hX : isX (bt o ((p + 1 : Nat) : Int)) = false := by rw [hbt, h3]; rfl
  exact sf_hex h2 hX h1 (by omega)
theorem pc_sp {s : ByteArray} {i n r : Nat} (h : ChA s i n r) : Sp (pc s i).1 := by
  have hw := h.width
  have hxx : bn s i < 128 → Sp ([92, 117] ++ hex4 (bn s i)) := fun hb => Sp.hex (by omega)
  unfold pc
  split
  · split
    · exact Sp.short (c := 98) (by decide)
    split
    · exact Sp.short (c := 102) (by decide)
    split
    · exact Sp.short (c := 110) (by decide)
    split
    · exact Sp.short (c := 114) (by decide)
    split
    · exact Sp.short (c := 116) (by decide)
    · exact hxx (by omega)
  split
  · exact hxx (by omega)
  split
  · exact Sp.short (c := 92) (by decide)
  split
  · exact Sp.short (c := 34) (by decide)
  split
  · rename_i h127
    have h2 : 2 ≤ n := by
      rcases Nat.lt_or_ge 1 n with g | g
      · omega
      · have := (h.small (by omega)).1; omega
    rw [dc_of h]
    split
    · rename_i hbad
      have hbad : r = 65533 ∧ n = 1 := hbad
      omega
    split
    · rename_i hr
      have hr : r = 8232 ∨ r = 8233 := hr
      rcases hr with rfl | rfl
      · exact Sp.hex (n := 8232) (by omega)
      · exact Sp.hex (n := 8233) (by omega)
    · show Sp (s.extract i (i + n)).data.toList
      rw [extract_tl]
      refine Sp.bytes _ fun c hc => ?_
      obtain ⟨k, hk, rfl⟩ := mem_take hc
      have : 128 ≤ bn s (i + k) := by
        rcases Nat.eq_zero_or_pos k with h0 | h0
        · subst h0; have := (h.big h2).1; rw [Nat.add_zero]; omega
        · have := h.rest h0 hk; omega
      rw [gb_bn]; omega
  · exact Sp.byte (by rw [gb_bn]; omega) (by rw [gb_bn]; omega)
theorem qf_sp {s : ByteArray} {i : Nat} (h : U8 s i) : Sp (qf s i) := by
  induction h with
  | done => rw [qf_end (Nat.le_refl _)]; exact Sp.nil
  | @step i n r h _ ih =>
    have hw := h.width
    rw [qf_on (by omega), (pc_ok h).1]
    exact (pc_sp h).append ih
theorem inn_sf {s : ByteArray} (h : U8 s 0) : sf (inn (qs s)) 0 = true := by
  have hz := inn_size (qs s)
  have hq := qs_size s
  have e : tl (inn (qs s)) 0 = qf s 0 ++ [] := by
    show (inn (qs s)).data.toList.drop 0 = _
    have := extract_tl (qs s) 1 (qf s 0).length
    unfold inn
    rw [hq, show (qf s 0).length + 2 - 1 = 1 + (qf s 0).length by omega, List.drop_zero, this]
    have h3 := (tl_cons (qs_tl s)).2.2
    rw [h3, List.take_left, List.append_nil]
  rw [qf_sp h _ _ _ e, sf_end (by omega)]
end Go.Proofs.YtbmmpnjpejamaaaDoor.Gu
