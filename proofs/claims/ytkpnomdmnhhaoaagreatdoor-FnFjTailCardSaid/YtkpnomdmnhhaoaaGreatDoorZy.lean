/- Looking up keys in a tree, and a text's tree where the text is cut off ahead of it. Plain; no statement of the set is proved here. -/
import Derived.Test.YtkpnomdmnhhaoaaGreatDoorZj
import Derived.Lib.AtoiAllCases
import Derived.Lib.Atoi
namespace Go.Proofs.YtkpnomdmnhhaoaaGreatDoor.Zf
open Go Go.Proofs Go.Proofs.YtkpnomdmnhhaoaaGreatDoor.Rx Go.Proofs.YtkpnomdmnhhaoaaGreatDoor.Pl Go.Proofs.YtkpnomdmnhhaoaaGreatDoor.Pw Go.Proofs.YtkpnomdmnhhaoaaGreatDoor.Sk Go.Proofs.YtkpnomdmnhhaoaaGreatDoor.Ut Go.Proofs.YtkpnomdmnhhaoaaGreatDoor.Zu
open Go.Proofs.YtkpnomdmnhhaoaaGreatDoor.Uq (uo uN hx pairU)
open Go.Proofs.YtkpnomdmnhhaoaaGreatDoor.Ed (mvP mvL sh)
open Go.Proofs.YtkpnomdmnhhaoaaGreatDoor.Nt (NT treeN treeL)
open Go.Proofs.YtkpnomdmnhhaoaaGreatDoor.Ka (nmS)
open Go.Proofs.YtkpnomdmnhhaoaaGreatDoor.Sk Go.Proofs.YtkpnomdmnhhaoaaGreatDoor.Zs

variable {s t : ByteArray} {u : Nat}
theorem ext_sfx (a b : Nat) : (sfx s u).extract a b = s.extract (u + a) (u + b) := by
  unfold sfx
  rw [ByteArray.extract_extract]
  apply ByteArray.ext
  simp only [ByteArray.data_extract]
  apply Array.ext'
  simp only [Array.toList_extract, List.extract_eq_take_drop]
  rcases Nat.lt_or_ge (u + b) s.size with g | g
  · rw [Nat.min_eq_left (by omega)]
  · rw [Nat.min_eq_right g]
    have hl : s.data.toList.length = s.size := Array.length_toList
    rw [List.take_of_length_le (by rw [List.length_drop]; omega), List.take_of_length_le (by rw [List.length_drop]; omega)]
theorem nm_sfx {n : Nat × Nat} (h : u ≤ n.1) (h2 : n.1 + 2 ≤ n.2) : nmS (sfx s u) (sh u 0 n.1, sh u 0 n.2) = nmS s n := by
  unfold nmS sh
  rw [ext_sfx]
  show ByteArray.mk ((uo (s.extract (u + (n.1 + 0 - u + 1)) (u + (n.2 + 0 - u - 1))) 0).getD []).toArray = _
  rw [show u + (n.1 + 0 - u + 1) = n.1 + 1 by omega, show u + (n.2 + 0 - u - 1) = n.2 - 1 by omega]
mutual
/-- A text's tree is the same where the text is cut off ahead of it. -/
theorem tree_sfx : ∀ p : PT, WfV s p → u ≤ p.b → treeN (sfx s u) (mvP u 0 p) = treeN s p
  | .mk k b e ns ks, h, hu => by
    have hu : u ≤ b := hu
    unfold WfV at h
    obtain ⟨h1, h2, h⟩ := h
    simp only [mvP, treeN]
    rcases h with ⟨a1, a2, a3⟩ | ⟨a1, a2, a3, a4, a5⟩ | ⟨a1, a2, a3, a4⟩ | ⟨a1, a2, a3⟩
    · subst a1; subst a2
      have hk : k ≠ 4 := by
        obtain ⟨_, a3⟩ := a3
        rcases a3 with ⟨g, _⟩ | ⟨g, _⟩ | ⟨g, _⟩ | ⟨g, _⟩ <;> omega
      rw [if_neg hk, if_neg hk, ext_sfx]
      unfold sh
      rw [show u + (b + 0 - u) = b by omega, show u + (e + 0 - u) = e by omega]
      simp only [mvL, treeL, List.map_nil]
    · subst a1; subst a2; subst a3
      have hl := strE_le a5
      rw [show ((if (4 : Nat) = 3 then (sfx s u).extract (sh u 0 b) (sh u 0 e) else if (4 : Nat) = 4 then nmS (sfx s u) (sh u 0 b, sh u 0 e) else ByteArray.mk #[]) = nmS s (b, e)) from nm_sfx (n := (b, e)) hu (by show b + 2 ≤ e; omega)]
      simp only [mvL, treeL, List.map_nil]
      rfl
    · subst a1; subst a2
      rw [treeE ks true (b + 1) e a4 (by omega)]
      simp
    · subst a1
      obtain ⟨g1, g2⟩ := treeM ks ns true (b + 1) e a3 (by omega)
      rw [g1, g2]
      simp
theorem treeE : ∀ (ks : List PT) (first : Bool) (j e : Nat), WfE s first j ks e → u ≤ j → treeL (sfx s u) (mvL u 0 ks) = treeL s ks
  | [], _, _, _, _, _ => by simp only [mvL, treeL]
  | p :: ks, first, j, e, h, hu => by
    unfold WfE at h
    obtain ⟨h0, h1, h2⟩ := h
    have g1 := bl_ge s j
    have g2 := bl_ge s (bl s j + 1)
    have hb : u ≤ p.b := by split at h0 <;> omega
    have hl := h1.lt
    simp only [mvL, treeL]
    rw [tree_sfx p h1 hb, treeE ks false p.e e h2 (by omega)]
theorem treeM : ∀ (ks : List PT) (ns : List (Nat × Nat)) (first : Bool) (j e : Nat), WfM s first j ns ks e → u ≤ j →
    treeL (sfx s u) (mvL u 0 ks) = treeL s ks ∧ (ns.map fun n => (sh u 0 n.1, sh u 0 n.2)).map (nmS (sfx s u)) = ns.map (nmS s)
  | [], ns, _, _, _, h, _ => by
    unfold WfM at h
    rw [h.1]
    simp only [mvL, treeL, List.map_nil, and_self]
  | p :: ks, ns, first, j, e, h, hu => by
    unfold WfM at h
    obtain ⟨n, ns', hns, h0, _, hs, _, hb, h1, h2⟩ := h
    rw [hns]
    have g1 := bl_ge s j
    have g2 := bl_ge s (bl s j + 1)
    have g3 := bl_ge s n.2
    have g4 := bl_ge s (bl s n.2 + 1)
    have hn : u ≤ n.1 := by split at h0 <;> omega
    have hl := h1.lt
    have hl2 := strE_le hs
    have hpb : u ≤ p.b := by omega
    obtain ⟨c1, c2⟩ := treeM ks ns' false p.e e h2 (by omega)
    simp only [mvL, treeL, List.map_cons]
    rw [tree_sfx p h1 hpb, c1, c2, nm_sfx hn (by omega)]
    exact ⟨rfl, rfl⟩
end
theorem hx_sfx (i : Nat) : ∀ m, hx (sfx s u) i m = hx s (u + i) m
  | 0 => rfl
  | m + 1 => by
    unfold hx
    rw [hx_sfx i m, sfx_bn, Nat.add_assoc]
theorem uN_sfx (i : Nat) (hu : u ≤ s.size) : uN (sfx s u) i = uN s (u + i) := by
  unfold uN
  rw [sfx_bn, sfx_bn, hx_sfx, sfx_size, show u + (i + 1) = u + i + 1 by omega]
  by_cases g : u + i + 6 ≤ s.size ∧ bn s (u + i) = 92 ∧ bn s (u + i + 1) = 117
  · rw [if_pos ⟨by omega, g.2⟩, if_pos g, show u + (i + 2) = u + i + 2 by omega]
  · rw [if_neg (fun c => g ⟨by omega, c.2⟩), if_neg (fun c => g ⟨by omega, c.2⟩)]
theorem pair_sfx (i n : Nat) (hu : u ≤ s.size) : pairU (sfx s u) i n = pairU s (u + i) n := by
  unfold pairU
  rw [uN_sfx _ hu, Nat.add_assoc]
theorem pd_sfx (hu : u ≤ s.size) : ∀ (n i : Nat), s.size - (u + i) ≤ n → pd (sfx s u) i = pd s (u + i)
  | n, i, hn => by
    have hz := sfx_size s u
    rcases Nat.lt_or_ge (u + i) s.size with g | g
    · cases n with
      | zero => omega
      | succ n =>
        by_cases hb : bn s (u + i) = 92
        · cases hN : uN s (u + i) with
          | none =>
            rw [pd_short hb hN, pd_short (by rw [sfx_bn]; exact hb) (by rw [uN_sfx _ hu]; exact hN), pd_sfx hu n (i + 2) (by omega)]; rfl
          | some m =>
            cases hP : pairU s (u + i) m with
            | none =>
              rw [pd_uni hN hP, pd_uni (by rw [uN_sfx _ hu]; exact hN) (by rw [pair_sfx _ _ hu]; exact hP), pd_sfx hu n (i + 6) (by omega)]; rfl
            | some c =>
              rw [pd_pair hN hP, pd_pair (by rw [uN_sfx _ hu]; exact hN) (by rw [pair_sfx _ _ hu]; exact hP), pd_sfx hu n (i + 12) (by omega)]; rfl
        · rw [pd_plain g hb, pd_plain (by omega) (by rw [sfx_bn]; exact hb), pd_sfx hu n (i + 1) (by omega)]; rfl
    · rw [pd_end g, pd_end (by omega)]
/-! ## Keys -/
/-- The number that a key writes, without a needless zero ahead. -/
def ixK (t : ByteArray) : Option Nat := if 1 < t.size ∧ bt t 0 = 48 then none else Lib.decNat t.data.toList
/-- A key of which the statements speak. -/
def KeyOk (t : ByteArray) : Prop := t.size = 0 ∨ (ixK t).isSome = true ∨ (0 < t.size ∧ bt t 0 ≠ 45 ∧ bt t 0 ≠ 43 ∧ ¬ (48 ≤ bt t 0 ∧ bt t 0 ≤ 57))
theorem dec_mono : ∀ (l : List UInt8) (acc D : Nat), Lib.decFrom acc l = some D → acc ≤ D
  | [], acc, D, h => by cases h; exact Nat.le_refl _
  | c :: l, acc, D, h => by
    unfold Lib.decFrom at h
    cases hv : Lib.digitVal c with
    | none => rw [hv] at h; cases h
    | some d =>
      rw [hv] at h
      have := dec_mono l (acc * 10 + d) D h
      omega
theorem digit_some {c : UInt8} {d : Nat} (h : Lib.digitVal c = some d) : 48 ≤ c.toNat ∧ c.toNat ≤ 57 ∧ d = c.toNat - 48 := by
  unfold Lib.digitVal at h
  split at h
  · cases h; rename_i g; exact ⟨g.1, g.2, rfl⟩
  · cases h
theorem pu_dec : ∀ (l : List UInt8) (acc D : Nat), Lib.decFrom acc l = some D → Lib.parseUint10 acc l = .ok D ∨ (Lib.parseUint10 acc l = .range ∧ 9223372036854775808 ≤ D)
  | [], acc, D, h => by cases h; exact .inl rfl
  | c :: l, acc, D, h => by
    unfold Lib.decFrom at h
    cases hv : Lib.digitVal c with
    | none => rw [hv] at h; cases h
    | some d =>
      rw [hv] at h
      have h : Lib.decFrom (acc * 10 + d) l = some D := h
      obtain ⟨g1, g2, rfl⟩ := digit_some hv
      have hm := dec_mono _ _ _ h
      unfold Lib.parseUint10
      rw [if_pos ⟨g1, g2⟩]
      split
      · exact .inr ⟨rfl, by omega⟩
      · split
        · exact .inr ⟨rfl, by omega⟩
        · exact pu_dec l _ D h
theorem atoi_dec {l : List UInt8} {D : Nat} (h : Lib.decNat l = some D) : Lib.atoiAll l = .ok (D : Int) ∨ (Lib.atoiAll l = .range ∧ 9223372036854775808 ≤ D) := by
  cases l with
  | nil => cases h
  | cons c r =>
    have h : Lib.decFrom 0 (c :: r) = some D := h
    have hc : 48 ≤ c.toNat := by
      unfold Lib.decFrom at h
      cases hv : Lib.digitVal c with
      | none => rw [hv] at h; cases h
      | some d => exact (digit_some hv).1
    rw [Lib.atoiAll_plain c r (by omega) (by omega)]
    unfold Lib.parseMag
    rw [if_neg (by simp)]
    rcases pu_dec _ _ _ h with e | ⟨e, g⟩
    · rw [e]
      unfold Lib.signless
      by_cases hD : 9223372036854775808 ≤ D
      · exact .inr ⟨by show (if 9223372036854775808 ≤ D then Lib.NumEnd.range else Lib.NumEnd.ok (D : Int)) = _; rw [if_pos hD], hD⟩
      · exact .inl (by show (if 9223372036854775808 ≤ D then Lib.NumEnd.range else Lib.NumEnd.ok (D : Int)) = _; rw [if_neg hD])
    · rw [e]; exact .inr ⟨rfl, g⟩
theorem bt_head {c : UInt8} {r : List UInt8} (h : t.data.toList = c :: r) : bt t 0 = (c.toNat : Int) := by
  unfold bt
  show (((t.data.toList.getD 0 0).toNat : Nat) : Int) = _
  rw [h]; rfl
theorem atoi_other (h : t.size = 0 ∨ (0 < t.size ∧ bt t 0 ≠ 45 ∧ bt t 0 ≠ 43 ∧ ¬ (48 ≤ bt t 0 ∧ bt t 0 ≤ 57))) : Lib.atoiAll t.data.toList = .syntax := by
  have hl : t.data.toList.length = t.size := Array.length_toList
  cases hd : t.data.toList with
  | nil => rfl
  | cons c r =>
    have hb := bt_head hd
    rw [hd, List.length_cons] at hl
    rcases h with h | ⟨_, h1, h2, h3⟩
    · omega
    · rw [hb] at h1 h2 h3
      rw [Lib.atoiAll_plain c r (by omega) (by omega)]
      unfold Lib.parseMag
      rw [if_neg (by simp)]
      unfold Lib.parseUint10
      rw [if_neg (by omega)]
      rfl
/-- How Atoi ends at a key. -/
theorem key_atoi (h : KeyOk t) : (∃ D, ixK t = some D ∧ (Lib.atoiAll t.data.toList = .ok (D : Int) ∨ Lib.atoiAll t.data.toList = .range ∧ 9223372036854775808 ≤ D)) ∨ (ixK t = none ∧ Lib.atoiAll t.data.toList = .syntax) := by
  by_cases hi : (ixK t).isSome = true
  · left
    obtain ⟨D, hD⟩ := Option.isSome_iff_exists.1 hi
    refine ⟨D, hD, ?_⟩
    unfold ixK at hD
    split at hD
    · cases hD
    · exact atoi_dec hD
  · right
    refine ⟨by cases hx : ixK t with | none => rfl | some d => rw [hx] at hi; exact absurd rfl hi, ?_⟩
    rcases h with h | h | h
    · exact atoi_other (.inl h)
    · exact absurd h hi
    · exact atoi_other (.inr h)
/-! ## What stands at keys -/
/-- One step down. -/
def HitN (n : NT) (key : ByteArray) (c : NT) : Prop :=
  (n.k = 6 ∧ ∃ i : Nat, n.keys[i]? = some key ∧ n.kids[i]? = some c) ∨ (n.k = 5 ∧ ∃ i : Nat, ixK key = some i ∧ n.kids[i]? = some c)
def MissN (n : NT) (key : ByteArray) : Prop :=
  (n.k = 6 → ∀ i : Nat, n.keys[i]? ≠ some key) ∧ (n.k = 5 → ∀ i, ixK key = some i → n.kids.length ≤ i)
inductive FindR : NT → List ByteArray → Option NT → Prop
  | fin (n : NT) : FindR n [] (some n)
  | miss {n : NT} {key : ByteArray} (keys : List ByteArray) : MissN n key → FindR n (key :: keys) none
  | hit {n c : NT} {key : ByteArray} {keys : List ByteArray} {r : Option NT} : HitN n key c → FindR c keys r → FindR n (key :: keys) r
mutual
/-- No object has a name twice. -/
def UqN : NT → Prop
  | .mk _ _ keys kids => (∀ (i j : Nat) (x : ByteArray), keys[i]? = some x → keys[j]? = some x → i = j) ∧ UqL kids
def UqL : List NT → Prop
  | [] => True
  | n :: l => UqN n ∧ UqL l
end
theorem UqN.inv {n : NT} (h : UqN n) : (∀ (i j : Nat) (x : ByteArray), n.keys[i]? = some x → n.keys[j]? = some x → i = j) ∧ UqL n.kids := by cases n; unfold UqN at h; exact h
theorem UqL.get : ∀ {l : List NT} {i : Nat} {n : NT}, UqL l → l[i]? = some n → UqN n
  | [], _, _, _, h => by simp at h
  | m :: l, 0, n, h, hi => by
    simp only [List.getElem?_cons_zero, Option.some.injEq] at hi
    subst hi
    unfold UqL at h; exact h.1
  | m :: l, i + 1, n, h, hi => by
    unfold UqL at h
    exact UqL.get h.2 (by simpa using hi)
theorem UqL.of : ∀ {l : List NT}, (∀ (i : Nat) (n : NT), l[i]? = some n → UqN n) → UqL l
  | [], _ => by unfold UqL; trivial
  | m :: l, h => by
    unfold UqL
    exact ⟨h 0 m rfl, UqL.of fun i n hi => h (i + 1) n (by simpa using hi)⟩
theorem UqN.mk {n : NT} (h1 : ∀ (i j : Nat) (x : ByteArray), n.keys[i]? = some x → n.keys[j]? = some x → i = j) (h2 : ∀ (i : Nat) (c : NT), n.kids[i]? = some c → UqN c) : UqN n := by
  cases n; unfold UqN; exact ⟨h1, UqL.of h2⟩
theorem HitN.det {n c c' : NT} {key : ByteArray} (h : UqN n) (a : HitN n key c) (b : HitN n key c') : c = c' := by
  rcases a with ⟨a1, i, a2, a3⟩ | ⟨a1, i, a2, a3⟩ <;> rcases b with ⟨b1, j, b2, b3⟩ | ⟨b1, j, b2, b3⟩
  · have := h.inv.1 i j key a2 b2
    subst this
    exact Option.some.inj (a3.symm.trans b3)
  · omega
  · omega
  · have := Option.some.inj (a2.symm.trans b2)
    subst this
    exact Option.some.inj (a3.symm.trans b3)
theorem HitN.noMiss {n c : NT} {key : ByteArray} (a : HitN n key c) (b : MissN n key) : False := by
  rcases a with ⟨a1, i, a2, a3⟩ | ⟨a1, i, a2, a3⟩
  · exact b.1 a1 i a2
  · have := b.2 a1 i a2
    have := (List.getElem?_eq_some_iff.1 a3).1
    omega
theorem HitN.uq {n c : NT} {key : ByteArray} (h : UqN n) (a : HitN n key c) : UqN c := by
  rcases a with ⟨a1, i, a2, a3⟩ | ⟨a1, i, a2, a3⟩
  · exact h.inv.2.get a3
  · exact h.inv.2.get a3
theorem FindR.det : ∀ {keys : List ByteArray} {n : NT} {r r' : Option NT}, UqN n → FindR n keys r → FindR n keys r' → r = r'
  | [], n, r, r', _, a, b => by cases a; cases b; rfl
  | key :: keys, n, r, r', h, a, b => by
    cases a with
    | miss _ a =>
      cases b with
      | miss _ b => rfl
      | hit b _ => exact (b.noMiss a).elim
    | hit a a2 =>
      cases b with
      | miss _ b => exact (a.noMiss b).elim
      | hit b b2 =>
        have := HitN.det h a b
        subst this
        exact FindR.det (a.uq h) a2 b2
end Go.Proofs.YtkpnomdmnhhaoaaGreatDoor.Zf
