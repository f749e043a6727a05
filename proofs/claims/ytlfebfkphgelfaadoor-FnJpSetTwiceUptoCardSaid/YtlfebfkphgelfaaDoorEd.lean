/- jsonparser's Escape: the text that it gives, and what that stands for. Plain; no statement of the set is proved here. -/
import Derived.Test.YtlfebfkphgelfaaDoorEb
namespace Go.Proofs.YtlfebfkphgelfaaDoor.Ed
open Go Go.Proofs Go.RowKit Go.Proofs.YtlfebfkphgelfaaDoor.Rx Go.Proofs.YtlfebfkphgelfaaDoor.Pl Go.Proofs.YtlfebfkphgelfaaDoor.Pw Go.Proofs.YtlfebfkphgelfaaDoor.Sk Go.Proofs.YtlfebfkphgelfaaDoor.Ut Go.Proofs.YtlfebfkphgelfaaDoor.Bw Go.Proofs.YtlfebfkphgelfaaDoor.Uq Go.Proofs.YtlfebfkphgelfaaDoor.Ql
open Go.Proofs.YtlfebfkphgelfaaDoor.Ka (nmS ixS Led)

/-- A piece of a string that says 'out'. -/
def Ok (piece out : List UInt8) : Prop := ∀ (o : ByteArray) (p : Nat) (r : List UInt8), tl o p = piece ++ r → strE o p = strE o (p + piece.length) ∧ uo o p = (uo o (p + piece.length)).map (out ++ ·)
theorem Ok.nil : Ok [] [] := fun o p r _ => ⟨rfl, by cases uo o p <;> simp⟩
theorem Ok.append {a b x y : List UInt8} (h1 : Ok a x) (h2 : Ok b y) : Ok (a ++ b) (x ++ y) := fun o p r h => by
  rw [List.append_assoc] at h
  obtain ⟨a1, a2⟩ := h1 o p _ h
  obtain ⟨b1, b2⟩ := h2 o _ _ (tl_app h)
  rw [List.length_append, ← Nat.add_assoc, a1, a2, b1, b2]
  refine ⟨rfl, ?_⟩
  cases uo o (p + a.length + b.length) <;> simp
theorem Ok.byte {c : UInt8} (h32 : 32 ≤ c.toNat) (h34 : c.toNat ≠ 34) (h92 : c.toNat ≠ 92) : Ok [c] [c] := fun o p r h => by
  obtain ⟨h1, h2, h3⟩ := tl_cons h
  have hb := bt_gb h2
  refine ⟨strE_plain h1 (by omega) (by omega) (by omega), ?_⟩
  rw [uo_plain h1 (by rw [bn_gb h2]; exact h92), h2]; rfl
theorem Ok.short {c : UInt8} (hx : isX (c.toNat : Int) = true) : Ok [92, c] [Uq.sh c] := fun o p r h => by
  obtain ⟨h1, h2, h3⟩ := tl_cons h
  obtain ⟨h4, h5, h6⟩ := tl_cons h3
  have hb := bt_gb h2
  have hc := bt_gb h5
  have hne : bn o (p + 1) ≠ 117 := by
    rw [bn_gb h5]
    have := isX_iff.1 hx
    omega
  refine ⟨?_, ?_⟩
  · rw [strE_esc hb, escE_x (by rw [hc]; exact hx)]; rfl
  · have hu : uN o p = none := by unfold uN; rw [if_neg fun h => hne h.2.2]
    rw [uo_short (bn_gb h2) hu h4, h5]; rfl
def hxd (j : Nat) : UInt8 := if j < 10 then UInt8.ofNat (48 + j) else UInt8.ofNat (87 + j)
def hx4 (b : Nat) : List UInt8 := [hxd (b / 4096 % 16), hxd (b / 256 % 16), hxd (b / 16 % 16), hxd (b / 1 % 16)]
theorem hv_hxd : ∀ d : Nat, d < 16 → hv (hxd d).toNat = some d := by decide
theorem isH_hxd : ∀ d : Nat, d < 16 → isH ((hxd d).toNat : Int) = true := by decide
theorem Ok.hex {n : Nat} (hn : n < 55296) : Ok ([92, 117] ++ hx4 n) (enc n) := fun o p r h => by
  obtain ⟨h1, h2, h3⟩ := tl_cons h
  obtain ⟨h4, h5, h6⟩ := tl_cons h3
  obtain ⟨h7, h8, h9⟩ := tl_cons h6
  obtain ⟨ha, hb, hc⟩ := tl_cons h9
  obtain ⟨hd, he, hf⟩ := tl_cons hc
  obtain ⟨hg, hh, hi⟩ := tl_cons hf
  have m := fun a => Nat.mod_lt a (by decide : 0 < 16)
  have hlen : ([92, 117] ++ hx4 n).length = 6 := rfl
  rw [hlen]
  have e6 : p + 1 + 1 + 1 + 1 + 1 + 1 = p + 6 := rfl
  refine ⟨?_, ?_⟩
  · rw [strE_esc (bt_gb h2), escE_u (bt_gb h5)]
    have b1 := bt_gb h8; have b2 := bt_gb hb; have b3 := bt_gb he; have b4 := bt_gb hh
    simp only [hexE]
    rw [b1, isH_hxd _ (m _), if_pos rfl, b2, isH_hxd _ (m _), if_pos rfl, b3, isH_hxd _ (m _), if_pos rfl, b4, isH_hxd _ (m _), if_pos rfl]
    rfl
  · have hu : uN o p = some n := by
      unfold uN
      rw [if_pos ⟨by omega, bn_gb h2, bn_gb h5⟩]
      have x0 : hx o (p + 2) 0 = some 0 := rfl
      have x1 := hx_some x0 (by rw [show p + 2 + 0 = p + 1 + 1 by omega, bn_gb h8]; exact hv_hxd _ (m _))
      have x2 := hx_some x1 (by rw [show p + 2 + (0 + 1) = p + 1 + 1 + 1 by omega, bn_gb hb]; exact hv_hxd _ (m _))
      have x3 := hx_some x2 (by rw [show p + 2 + (0 + 1 + 1) = p + 1 + 1 + 1 + 1 by omega, bn_gb he]; exact hv_hxd _ (m _))
      have x4 := hx_some x3 (by rw [show p + 2 + (0 + 1 + 1 + 1) = p + 1 + 1 + 1 + 1 + 1 by omega, bn_gb hh]; exact hv_hxd _ (m _))
      have x4 : hx o (p + 2) 4 = _ := x4
      rw [x4]
      congr 1
      omega
    have hp : pairU o p n = none := by
      unfold pairU
      cases uN o (p + 6) with
      | none => rfl
      | some k => exact if_neg (by omega)
    rw [uo_one hu hp]
/-- What Escape writes for a byte. -/
def eb (c : UInt8) : List UInt8 :=
  if c.toNat = 34 ∨ c.toNat = 92 then [92, c] else if c.toNat = 8 then [92, 98] else if c.toNat = 12 then [92, 102] else if c.toNat = 10 then [92, 110] else if c.toNat = 13 then [92, 114] else if c.toNat = 9 then [92, 116]
  else if c.toNat < 32 then [92, 117, 48, 48, hxd (c.toNat / 16), hxd (c.toNat % 16)] else [c]
theorem u8_of {c : UInt8} {n : Nat} (h : c.toNat = n) (hn : n < 256) : c = UInt8.ofNat n := UInt8.toNat_inj.1 (by rw [UInt8.toNat_ofNat_of_lt' (by simpa using hn)]; exact h)
theorem eb_ok (c : UInt8) : Ok (eb c) [c] := by
  unfold eb
  split
  · rename_i h
    rcases h with h | h
    · have hc := u8_of h (by decide)
      subst hc
      exact Ok.short (c := 34) (by decide)
    · have hc := u8_of h (by decide)
      subst hc
      exact Ok.short (c := 92) (by decide)
  split
  · rename_i h
    have hc := u8_of h (by decide)
    subst hc
    exact Ok.short (c := 98) (by decide)
  split
  · rename_i h
    have hc := u8_of h (by decide)
    subst hc
    exact Ok.short (c := 102) (by decide)
  split
  · rename_i h
    have hc := u8_of h (by decide)
    subst hc
    exact Ok.short (c := 110) (by decide)
  split
  · rename_i h
    have hc := u8_of h (by decide)
    subst hc
    exact Ok.short (c := 114) (by decide)
  split
  · rename_i h
    have hc := u8_of h (by decide)
    subst hc
    exact Ok.short (c := 116) (by decide)
  split
  · rename_i h
    have := Ok.hex (n := c.toNat) (by omega)
    have e : [92, 117] ++ hx4 c.toNat = [92, 117, 48, 48, hxd (c.toNat / 16), hxd (c.toNat % 16)] := by
      unfold hx4
      rw [show c.toNat / 4096 % 16 = 0 by omega, show c.toNat / 256 % 16 = 0 by omega, show c.toNat / 16 % 16 = c.toNat / 16 by omega, Nat.div_one]
      rfl
    rw [e] at this
    have e2 : enc c.toNat = [c] := by
      unfold enc
      rw [if_pos (by omega)]
      exact congrArg (fun z => [z]) (u8_of rfl (by omega)).symm
    rwa [e2] at this
  · rename_i h1 h2 h3 h4 h5 h6 h7
    exact Ok.byte (by omega) (by omega) (by omega)
theorem eb_len (c : UInt8) : (eb c).length ≤ 6 := by
  unfold eb
  repeat' split
  all_goals simp
theorem eb_plain {c : UInt8} (h : 32 ≤ c.toNat) (h1 : c.toNat ≠ 34) (h2 : c.toNat ≠ 92) : eb c = [c] := by
  unfold eb
  rw [if_neg (by omega), if_neg (by omega), if_neg (by omega), if_neg (by omega), if_neg (by omega), if_neg (by omega), if_neg (by omega)]
def es (l : List UInt8) : List UInt8 := l.flatMap eb
theorem es_ok : ∀ l : List UInt8, Ok (es l) l
  | [] => Ok.nil
  | c :: l => (eb_ok c).append (es_ok l)
theorem es_len : ∀ l : List UInt8, (es l).length ≤ 6 * l.length
  | [] => Nat.le_refl _
  | c :: l => by
    have h1 := eb_len c
    have h2 := es_len l
    show (eb c ++ es l).length ≤ 6 * (l.length + 1)
    rw [List.length_append]; omega
theorem es_app (a b : List UInt8) : es (a ++ b) = es a ++ es b := List.flatMap_append ..
/-- The escaped text. -/
def qe (s : ByteArray) : ByteArray := ⟨(34 :: es s.data.toList ++ [34]).toArray⟩
theorem qe_size (s : ByteArray) : (qe s).size = (es s.data.toList).length + 2 := by
  have : (qe s).size = (34 :: es s.data.toList ++ [34]).length := List.size_toArray
  rw [this]; simp
theorem qe_le (s : ByteArray) : (qe s).size ≤ 6 * s.size + 2 := by
  have := es_len s.data.toList
  have hz : s.data.toList.length = s.size := by rw [Array.length_toList]; rfl
  rw [hz] at this
  rw [qe_size]; omega
theorem qe_tl (s : ByteArray) : tl (qe s) 0 = 34 :: (es s.data.toList ++ [34]) := rfl
theorem qe_wf (s : ByteArray) : WfV (qe s) (.mk 4 0 (qe s).size [] []) := by
  obtain ⟨h1, h2, h3⟩ := tl_cons (qe_tl s)
  have hq : strE (qe s) 1 = some (qe s).size := by
    rw [(es_ok _ _ _ _ h3).1]
    have h4 := tl_app h3
    obtain ⟨h5, h6, h7⟩ := tl_cons h4
    rw [strE_q (bt_gb h6), qe_size]
    congr 1
    omega
  unfold WfV
  exact ⟨by have := qe_size s; omega, Nat.le_refl _, .inr (.inl ⟨rfl, rfl, rfl, bt_gb h2, hq⟩)⟩
theorem qe_nm (s : ByteArray) : nmS (qe s) (0, (qe s).size) = s := by
  have hq := qe_size s
  unfold nmS
  have hz : ((qe s).extract 1 ((qe s).size - 1)).size = (es s.data.toList).length := by rw [ByteArray.size_extract]; omega
  have e : tl ((qe s).extract 1 ((qe s).size - 1)) 0 = es s.data.toList ++ [] := by
    show ((qe s).extract 1 ((qe s).size - 1)).data.toList.drop 0 = _
    have := extract_tl (qe s) 1 (es s.data.toList).length
    rw [hq, show (es s.data.toList).length + 2 - 1 = 1 + (es s.data.toList).length by omega, List.drop_zero, this]
    have h3 := (tl_cons (qe_tl s)).2.2
    rw [h3, List.take_left, List.append_nil]
  have := (es_ok s.data.toList _ _ _ e).2
  have hend : uo ((qe s).extract 1 ((qe s).size - 1)) (0 + (es s.data.toList).length) = some [] := uo_end (by omega)
  rw [hend] at this
  show ByteArray.mk ((uo ((qe s).extract 1 ((qe s).size - 1)) 0).getD []).toArray = s
  rw [this]
  show ByteArray.mk (s.data.toList ++ []).toArray = s
  rw [List.append_nil, Array.toArray_toList]
theorem ext_eq {s s' : ByteArray} {a a' n : Nat} (h1 : a + n ≤ s.size) (h2 : a' + n ≤ s'.size) (h : ∀ j, j < n → bt s' ((a' + j : Nat) : Int) = bt s ((a + j : Nat) : Int)) : s'.extract a' (a' + n) = s.extract a (a + n) := by
  have z1 : (s.extract a (a + n)).size = n := by rw [ByteArray.size_extract]; omega
  have z2 : (s'.extract a' (a' + n)).size = n := by rw [ByteArray.size_extract]; omega
  apply ByteArray.ext
  apply Array.ext
  · show (s'.extract a' (a' + n)).size = (s.extract a (a + n)).size
    rw [z1, z2]
  · intro k k1 k2
    have hk : k < n := by rw [← z1]; exact k2
    have a1 := bt_extract (s := s) (a := a) (b := a + n) (j := k) h1 (by omega)
    have a2 := bt_extract (s := s') (a := a') (b := a' + n) (j := k) h2 (by omega)
    rw [h _ (by omega), ← a1] at a2
    unfold bt at a2
    rw [Int.toNat_natCast, List.getD_eq_getElem?_getD, List.getD_eq_getElem?_getD, List.getElem?_eq_getElem (by rw [Array.length_toList]; exact k1), List.getElem?_eq_getElem (by rw [Array.length_toList]; exact k2)] at a2
    simp only [Option.getD_some, Array.getElem_toList] at a2
    exact UInt8.toNat_inj.1 (Int.ofNat.inj a2)
/-- The name of a string that was put. -/
theorem nm_put {s t : ByteArray} {b e : Nat} (hb : b ≤ e) (he : e ≤ s.size) (ht : 2 ≤ t.size) : nmS (put s b e t) (b, b + t.size) = nmS t (0, t.size) := by
  have hz := put_size (t := t) hb he
  unfold nmS
  have h1 : b + t.size - 1 = (b + 1) + (t.size - 2) := by omega
  have h2 : t.size - 1 = (0 + 1) + (t.size - 2) := by omega
  show ByteArray.mk ((uo ((put s b e t).extract (b + 1) (b + t.size - 1)) 0).getD []).toArray = ByteArray.mk ((uo (t.extract (0 + 1) (t.size - 1)) 0).getD []).toArray
  rw [h1, h2, ext_eq (s := t) (a := 0 + 1) (by omega) (by omega) (fun j hj => by
    rw [show b + 1 + j = b + (1 + j) by omega, put_mid hb he (by omega), Nat.zero_add])]
end Go.Proofs.YtlfebfkphgelfaaDoor.Ed
